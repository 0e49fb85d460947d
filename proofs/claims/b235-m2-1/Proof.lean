import JvmDerived
import JvmDerived.Pilot.@@N@@Statement
import JvmDerived.Pilot.@@N@@Code
set_option linter.unusedVariables false
set_option linter.unusedSimpArgs false
namespace Jvm.Pilot.@@N@@
open Jvm Jvm.ClassFile Sem Op Lib Jvm.Free Jvm.Stand Jvm.LawKit Jvm.RoadKit Bundle Jvm.Pilot.@@N@@.Jvm.D
abbrev iI (x : Int32) : Value := .int x
abbrev jJ (x : Int64) : Value := .long x
theorem wm {d : Jvm.Cond} (i : Nat) (h : tables_1[i]? = some d) : d ∈ tables_1 := List.mem_of_getElem? h
namespace Own
section Eng
/-- from the frame g over the heap h, with k cells and n slots made so far, every standing run ends as Fn says, having written at or above n0 alone -/
def Goes (p : Program) (l : Launch) (e : Env) (R : Room) (s : State) (m : MethodId) (args : Array Value) (below : List Frame) (meth : Method) (c : Code) (n0 mc ms : Nat) (Fn : Option Value → Heap → Prop) (h : Heap) (k n : Nat) (g : JFrame) : Prop :=
  ∀ (T : State) (locs : List Loc), Stand p l e R s m args below meth c T locs k n → Fr n0 locs → T.heap = h →
    ∃ (s₂ : State) (o : Outcome), Steps p.tables e below (T.setTop g) s₂ ∧ s₂.status = .running ∧ Ended s₂ below o ∧ ∃ (v : Option Value) (L : List Loc), o = .returned v ∧ (Fn v s₂.heap ∧ Fr n0 L) ∧ FrameEnd s o s₂ L mc ms
/-- the contract of a method at one list of arguments and one heap -/
def Does (l : Launch) (y : MethodName) (bytes : ByteArray) (maxL : Nat) (ret : Option FieldType) (ws : List Jvm.Cond) (rm : Room) (Z : State) (as' : Array Value) (h0 : Heap) (n0 : Nat) (Fn : Option Value → Heap → Prop) : Prop :=
  MetFree l y (head1 (Jvm.Cond.code y bytes maxL ret :: ws) rm) (fun a U => a = as' ∧ Z.Warmed39 U.vm ∧ U.heap = h0) (fun _ _ _ _ _ => True) (fun _ U o U' => ∃ v L, o = .returned v ∧ (Fn v U'.heap ∧ Fr n0 L) ∧ FrameEnd U o U' L rm.cells rm.slots)
variable {p : Program} {l : Launch} {e : Env} {R : Room} {s : State} {m : MethodId} {args : Array Value} {below : List Frame} {meth : Method} {c : Code} {n0 mc ms : Nat} {Fn : Option Value → Heap → Prop} {h : Heap} {k n : Nat}
theorem doesOf {y : MethodName} {bytes : ByteArray} {maxL : Nat} {ret : Option FieldType} {ws : List Jvm.Cond} {rm : Room} {Z : State} {as' : Array Value} {h0 : Heap} (hy : plainFor y = true)
    (body : ∀ (p : Program) (e : Env) (s : State) (m : MethodId) (below : List Frame) (meth : Method) (c : Code), p.tables.exec = Jvm.exec → c.code = bytes → c.maxLocals = maxL → meth.sig.returnType = ret → meth.locks = false → s.vm.findClass y.cls = some m.cls → meth.name = y.name → Z.Warmed39 s.vm →
      Goes p l e rm s m as' below meth c n0 rm.cells rm.slots Fn h0 0 0 (entryFrame m as' maxL)) : Does l y bytes maxL ret ws rm Z as' h0 n0 Fn := by
  refine MetFree.of_bodySF hy hisR ?_
  intro p e s m args below meth c s₁ Bd hml hP _
  obtain ⟨rfl, hZ, hh⟩ := hP
  have e0 : s₁.heap = h0 := by rw [← hh, Bd.state]; rfl
  obtain ⟨s₂, o, h1, h2, h3, h4⟩ := body p e s m below meth c Bd.exec Bd.bytes hml Bd.returns Bd.notSynchronized (findClass_of_methodNamed Bd.named) (name_of_methodNamed Bd.named Bd.method).1 hZ s₁ [] (Stand.of_body Bd) (Fr.nil n0) e0
  exact ⟨s₂, o, h1, h2, h3, h4⟩
theorem Goes.pure {g g' : JFrame} (st : ∀ (T : State) (locs : List Loc) (t : State), Stand p l e R s m args below meth c T locs k n → Steps p.tables e below (T.setTop g') t → Steps p.tables e below (T.setTop g) t) (K : Goes p l e R s m args below meth c n0 mc ms Fn h k n g') : Goes p l e R s m args below meth c n0 mc ms Fn h k n g := fun T locs X N eT => by
  obtain ⟨s₂, o, hs, r⟩ := K T locs X N eT
  exact ⟨s₂, o, st T locs s₂ X hs, r⟩
theorem Goes.move {g g' : JFrame} {k' n' : Nat} {Pr : Heap → Prop} (st : ∀ (T : State) (locs : List Loc), Stand p l e R s m args below meth c T locs k n → Fr n0 locs → T.heap = h → ∃ (T' : State) (locs' : List Loc), Stand p l e R s m args below meth c T' locs' k' n' ∧ Fr n0 locs' ∧ Pr T'.heap ∧ ∀ t, Steps p.tables e below (T'.setTop g') t → Steps p.tables e below (T.setTop g) t)
    (K : ∀ h', Pr h' → Goes p l e R s m args below meth c n0 mc ms Fn h' k' n' g') : Goes p l e R s m args below meth c n0 mc ms Fn h k n g := fun T locs X N eT => by
  obtain ⟨T', locs', X', N', hP, st'⟩ := st T locs X N eT
  obtain ⟨s₂, o, hs, r⟩ := K T'.heap hP T' locs' X' N' rfl
  exact ⟨s₂, o, st' s₂ hs, r⟩
theorem Goes.join {g : JFrame} (g' : JFrame) (K1 : Goes p l e R s m args below meth c n0 mc ms Fn h k n g' → Goes p l e R s m args below meth c n0 mc ms Fn h k n g) (K2 : Goes p l e R s m args below meth c n0 mc ms Fn h k n g') : Goes p l e R s m args below meth c n0 mc ms Fn h k n g := K1 K2
theorem Goes.cast {g g' : JFrame} (q : g = g') (K : Goes p l e R s m args below meth c n0 mc ms Fn h k n g') : Goes p l e R s m args below meth c n0 mc ms Fn h k n g := q ▸ K
theorem Goes.fin {Fn' : Option Value → Heap → Prop} {g : JFrame} (q : ∀ v h, Fn v h → Fn' v h) (K : Goes p l e R s m args below meth c n0 mc ms Fn h k n g) : Goes p l e R s m args below meth c n0 mc ms Fn' h k n g := fun T locs X N eT => by
  obtain ⟨s₂, o, h1, h2, h3, v, L, h4, ⟨h5, h6⟩, h7⟩ := K T locs X N eT
  exact ⟨s₂, o, h1, h2, h3, v, L, h4, ⟨q _ _ h5, h6⟩, h7⟩

theorem iadd (hx : p.tables.exec = Jvm.exec) {pc pc' : Nat} {Ls : Array Slot} {x y : Int32} {rest : List Value} (hd : decode c.code pc = .ok (.iadd, 1)) (hp : pc + 1 = pc') (K : Goes p l e R s m args below meth c n0 mc ms Fn h k n (mkF m pc' Ls (.int (x + y) :: rest))) : Goes p l e R s m args below meth c n0 mc ms Fn h k n (mkF m pc Ls (.int y :: .int x :: rest)) := by
  subst hp; exact K.pure fun T locs t X hs => XS.iadd X.here hx rfl hd rfl hs
theorem isub (hx : p.tables.exec = Jvm.exec) {pc pc' : Nat} {Ls : Array Slot} {x y : Int32} {rest : List Value} (hd : decode c.code pc = .ok (.isub, 1)) (hp : pc + 1 = pc') (K : Goes p l e R s m args below meth c n0 mc ms Fn h k n (mkF m pc' Ls (.int (x - y) :: rest))) : Goes p l e R s m args below meth c n0 mc ms Fn h k n (mkF m pc Ls (.int y :: .int x :: rest)) := by
  subst hp; exact K.pure fun T locs t X hs => XS.isub X.here hx rfl hd rfl hs
theorem imul (hx : p.tables.exec = Jvm.exec) {pc pc' : Nat} {Ls : Array Slot} {x y : Int32} {rest : List Value} (hd : decode c.code pc = .ok (.imul, 1)) (hp : pc + 1 = pc') (K : Goes p l e R s m args below meth c n0 mc ms Fn h k n (mkF m pc' Ls (.int (x * y) :: rest))) : Goes p l e R s m args below meth c n0 mc ms Fn h k n (mkF m pc Ls (.int y :: .int x :: rest)) := by
  subst hp; exact K.pure fun T locs t X hs => XS.imul X.here hx rfl hd rfl hs
theorem iand (hx : p.tables.exec = Jvm.exec) {pc pc' : Nat} {Ls : Array Slot} {x y : Int32} {rest : List Value} (hd : decode c.code pc = .ok (.iand, 1)) (hp : pc + 1 = pc') (K : Goes p l e R s m args below meth c n0 mc ms Fn h k n (mkF m pc' Ls (.int (x &&& y) :: rest))) : Goes p l e R s m args below meth c n0 mc ms Fn h k n (mkF m pc Ls (.int y :: .int x :: rest)) := by
  subst hp; exact K.pure fun T locs t X hs => XS.iand X.here hx rfl hd rfl hs
theorem ior (hx : p.tables.exec = Jvm.exec) {pc pc' : Nat} {Ls : Array Slot} {x y : Int32} {rest : List Value} (hd : decode c.code pc = .ok (.ior, 1)) (hp : pc + 1 = pc') (K : Goes p l e R s m args below meth c n0 mc ms Fn h k n (mkF m pc' Ls (.int (x ||| y) :: rest))) : Goes p l e R s m args below meth c n0 mc ms Fn h k n (mkF m pc Ls (.int y :: .int x :: rest)) := by
  subst hp; exact K.pure fun T locs t X hs => XS.ior X.here hx rfl hd rfl hs
theorem ixor (hx : p.tables.exec = Jvm.exec) {pc pc' : Nat} {Ls : Array Slot} {x y : Int32} {rest : List Value} (hd : decode c.code pc = .ok (.ixor, 1)) (hp : pc + 1 = pc') (K : Goes p l e R s m args below meth c n0 mc ms Fn h k n (mkF m pc' Ls (.int (x ^^^ y) :: rest))) : Goes p l e R s m args below meth c n0 mc ms Fn h k n (mkF m pc Ls (.int y :: .int x :: rest)) := by
  subst hp; exact K.pure fun T locs t X hs => XS.ixor X.here hx rfl hd rfl hs
theorem ishl (hx : p.tables.exec = Jvm.exec) {pc pc' : Nat} {Ls : Array Slot} {x y : Int32} {rest : List Value} (hd : decode c.code pc = .ok (.ishl, 1)) (hp : pc + 1 = pc') (K : Goes p l e R s m args below meth c n0 mc ms Fn h k n (mkF m pc' Ls (.int (x <<< (y &&& 31)) :: rest))) : Goes p l e R s m args below meth c n0 mc ms Fn h k n (mkF m pc Ls (.int y :: .int x :: rest)) := by
  subst hp; exact K.pure fun T locs t X hs => XS.ishl X.here hx rfl hd rfl hs
theorem ishr (hx : p.tables.exec = Jvm.exec) {pc pc' : Nat} {Ls : Array Slot} {x y : Int32} {rest : List Value} (hd : decode c.code pc = .ok (.ishr, 1)) (hp : pc + 1 = pc') (K : Goes p l e R s m args below meth c n0 mc ms Fn h k n (mkF m pc' Ls (.int (x >>> (y &&& 31)) :: rest))) : Goes p l e R s m args below meth c n0 mc ms Fn h k n (mkF m pc Ls (.int y :: .int x :: rest)) := by
  subst hp; exact K.pure fun T locs t X hs => XS.ishr X.here hx rfl hd rfl hs
theorem iushr (hx : p.tables.exec = Jvm.exec) {pc pc' : Nat} {Ls : Array Slot} {x y : Int32} {rest : List Value} (hd : decode c.code pc = .ok (.iushr, 1)) (hp : pc + 1 = pc') (K : Goes p l e R s m args below meth c n0 mc ms Fn h k n (mkF m pc' Ls (.int ((x.toUInt32 >>> (y &&& 31).toUInt32).toInt32) :: rest))) : Goes p l e R s m args below meth c n0 mc ms Fn h k n (mkF m pc Ls (.int y :: .int x :: rest)) := by
  subst hp; exact K.pure fun T locs t X hs => XS.iushr X.here hx rfl hd rfl hs
theorem ladd (hx : p.tables.exec = Jvm.exec) {pc pc' : Nat} {Ls : Array Slot} {x y : Int64} {rest : List Value} (hd : decode c.code pc = .ok (.ladd, 1)) (hp : pc + 1 = pc') (K : Goes p l e R s m args below meth c n0 mc ms Fn h k n (mkF m pc' Ls (.long (x + y) :: rest))) : Goes p l e R s m args below meth c n0 mc ms Fn h k n (mkF m pc Ls (.long y :: .long x :: rest)) := by
  subst hp; exact K.pure fun T locs t X hs => XS.ladd X.here hx rfl hd rfl hs
theorem lsub (hx : p.tables.exec = Jvm.exec) {pc pc' : Nat} {Ls : Array Slot} {x y : Int64} {rest : List Value} (hd : decode c.code pc = .ok (.lsub, 1)) (hp : pc + 1 = pc') (K : Goes p l e R s m args below meth c n0 mc ms Fn h k n (mkF m pc' Ls (.long (x - y) :: rest))) : Goes p l e R s m args below meth c n0 mc ms Fn h k n (mkF m pc Ls (.long y :: .long x :: rest)) := by
  subst hp; exact K.pure fun T locs t X hs => XS.lsub X.here hx rfl hd rfl hs
theorem lmul (hx : p.tables.exec = Jvm.exec) {pc pc' : Nat} {Ls : Array Slot} {x y : Int64} {rest : List Value} (hd : decode c.code pc = .ok (.lmul, 1)) (hp : pc + 1 = pc') (K : Goes p l e R s m args below meth c n0 mc ms Fn h k n (mkF m pc' Ls (.long (x * y) :: rest))) : Goes p l e R s m args below meth c n0 mc ms Fn h k n (mkF m pc Ls (.long y :: .long x :: rest)) := by
  subst hp; exact K.pure fun T locs t X hs => XS.lmul X.here hx rfl hd rfl hs
theorem land (hx : p.tables.exec = Jvm.exec) {pc pc' : Nat} {Ls : Array Slot} {x y : Int64} {rest : List Value} (hd : decode c.code pc = .ok (.land, 1)) (hp : pc + 1 = pc') (K : Goes p l e R s m args below meth c n0 mc ms Fn h k n (mkF m pc' Ls (.long (x &&& y) :: rest))) : Goes p l e R s m args below meth c n0 mc ms Fn h k n (mkF m pc Ls (.long y :: .long x :: rest)) := by
  subst hp; exact K.pure fun T locs t X hs => XS.land X.here hx rfl hd rfl hs
theorem lor (hx : p.tables.exec = Jvm.exec) {pc pc' : Nat} {Ls : Array Slot} {x y : Int64} {rest : List Value} (hd : decode c.code pc = .ok (.lor, 1)) (hp : pc + 1 = pc') (K : Goes p l e R s m args below meth c n0 mc ms Fn h k n (mkF m pc' Ls (.long (x ||| y) :: rest))) : Goes p l e R s m args below meth c n0 mc ms Fn h k n (mkF m pc Ls (.long y :: .long x :: rest)) := by
  subst hp; exact K.pure fun T locs t X hs => XS.lor X.here hx rfl hd rfl hs
theorem lxor (hx : p.tables.exec = Jvm.exec) {pc pc' : Nat} {Ls : Array Slot} {x y : Int64} {rest : List Value} (hd : decode c.code pc = .ok (.lxor, 1)) (hp : pc + 1 = pc') (K : Goes p l e R s m args below meth c n0 mc ms Fn h k n (mkF m pc' Ls (.long (x ^^^ y) :: rest))) : Goes p l e R s m args below meth c n0 mc ms Fn h k n (mkF m pc Ls (.long y :: .long x :: rest)) := by
  subst hp; exact K.pure fun T locs t X hs => XS.lxor X.here hx rfl hd rfl hs
theorem lshl (hx : p.tables.exec = Jvm.exec) {pc pc' : Nat} {Ls : Array Slot} {x : Int64} {y : Int32} {rest : List Value} (hd : decode c.code pc = .ok (.lshl, 1)) (hp : pc + 1 = pc') (K : Goes p l e R s m args below meth c n0 mc ms Fn h k n (mkF m pc' Ls (.long (x <<< (y &&& 0x3f).toInt64) :: rest))) : Goes p l e R s m args below meth c n0 mc ms Fn h k n (mkF m pc Ls (.int y :: .long x :: rest)) := by
  subst hp; exact K.pure fun T locs t X hs => XS.lshl X.here hx rfl hd rfl hs
theorem lshr (hx : p.tables.exec = Jvm.exec) {pc pc' : Nat} {Ls : Array Slot} {x : Int64} {y : Int32} {rest : List Value} (hd : decode c.code pc = .ok (.lshr, 1)) (hp : pc + 1 = pc') (K : Goes p l e R s m args below meth c n0 mc ms Fn h k n (mkF m pc' Ls (.long (x >>> (y &&& 0x3f).toInt64) :: rest))) : Goes p l e R s m args below meth c n0 mc ms Fn h k n (mkF m pc Ls (.int y :: .long x :: rest)) := by
  subst hp; exact K.pure fun T locs t X hs => XS.lshr X.here hx rfl hd rfl hs
theorem lushr (hx : p.tables.exec = Jvm.exec) {pc pc' : Nat} {Ls : Array Slot} {x : Int64} {y : Int32} {rest : List Value} (hd : decode c.code pc = .ok (.lushr, 1)) (hp : pc + 1 = pc') (K : Goes p l e R s m args below meth c n0 mc ms Fn h k n (mkF m pc' Ls (.long ((x.toUInt64 >>> (y &&& 0x3f).toInt64.toUInt64).toInt64) :: rest))) : Goes p l e R s m args below meth c n0 mc ms Fn h k n (mkF m pc Ls (.int y :: .long x :: rest)) := by
  subst hp; exact K.pure fun T locs t X hs => XS.lushr X.here hx rfl hd rfl hs
theorem lcmp (hx : p.tables.exec = Jvm.exec) {pc pc' : Nat} {Ls : Array Slot} {x y : Int64} {rest : List Value} (hd : decode c.code pc = .ok (.lcmp, 1)) (hp : pc + 1 = pc') (K : Goes p l e R s m args below meth c n0 mc ms Fn h k n (mkF m pc' Ls (.int (lcmpW x y) :: rest))) : Goes p l e R s m args below meth c n0 mc ms Fn h k n (mkF m pc Ls (.long y :: .long x :: rest)) := by
  subst hp; exact K.pure fun T locs t X hs => XS.lcmp X.here hx rfl hd rfl hs
theorem idiv (hx : p.tables.exec = Jvm.exec) {pc pc' : Nat} {Ls : Array Slot} {x y : Int32} {rest : List Value} (hd : decode c.code pc = .ok (.idiv, 1)) (hp : pc + 1 = pc') (hy : y ≠ 0) (K : Goes p l e R s m args below meth c n0 mc ms Fn h k n (mkF m pc' Ls (.int (x / y) :: rest))) : Goes p l e R s m args below meth c n0 mc ms Fn h k n (mkF m pc Ls (.int y :: .int x :: rest)) := by
  subst hp; exact K.pure fun T locs t X hs => XS.idiv X.here hx rfl hd rfl hy hs
theorem irem (hx : p.tables.exec = Jvm.exec) {pc pc' : Nat} {Ls : Array Slot} {x y : Int32} {rest : List Value} (hd : decode c.code pc = .ok (.irem, 1)) (hp : pc + 1 = pc') (hy : y ≠ 0) (K : Goes p l e R s m args below meth c n0 mc ms Fn h k n (mkF m pc' Ls (.int (x % y) :: rest))) : Goes p l e R s m args below meth c n0 mc ms Fn h k n (mkF m pc Ls (.int y :: .int x :: rest)) := by
  subst hp; exact K.pure fun T locs t X hs => iremM X hx rfl hd rfl hy hs
theorem ldiv (hx : p.tables.exec = Jvm.exec) {pc pc' : Nat} {Ls : Array Slot} {x y : Int64} {rest : List Value} (hd : decode c.code pc = .ok (.ldiv, 1)) (hp : pc + 1 = pc') (hy : y ≠ 0) (K : Goes p l e R s m args below meth c n0 mc ms Fn h k n (mkF m pc' Ls (.long (x / y) :: rest))) : Goes p l e R s m args below meth c n0 mc ms Fn h k n (mkF m pc Ls (.long y :: .long x :: rest)) := by
  subst hp; exact K.pure fun T locs t X hs => XS.ldiv X.here hx rfl hd rfl hy hs
theorem lrem (hx : p.tables.exec = Jvm.exec) {pc pc' : Nat} {Ls : Array Slot} {x y : Int64} {rest : List Value} (hd : decode c.code pc = .ok (.lrem, 1)) (hp : pc + 1 = pc') (hy : y ≠ 0) (K : Goes p l e R s m args below meth c n0 mc ms Fn h k n (mkF m pc' Ls (.long (x % y) :: rest))) : Goes p l e R s m args below meth c n0 mc ms Fn h k n (mkF m pc Ls (.long y :: .long x :: rest)) := by
  subst hp; exact K.pure fun T locs t X hs => XS.lrem X.here hx rfl hd rfl hy (by rw [lrem_mod]; exact hs)
theorem ineg (hx : p.tables.exec = Jvm.exec) {pc pc' : Nat} {Ls : Array Slot} {x : Int32} {rest : List Value} (hd : decode c.code pc = .ok (.ineg, 1)) (hp : pc + 1 = pc') (K : Goes p l e R s m args below meth c n0 mc ms Fn h k n (mkF m pc' Ls (.int (-x) :: rest))) : Goes p l e R s m args below meth c n0 mc ms Fn h k n (mkF m pc Ls (.int x :: rest)) := by
  subst hp; exact K.pure fun T locs t X hs => XS.ineg X.here hx rfl hd rfl hs
theorem lneg (hx : p.tables.exec = Jvm.exec) {pc pc' : Nat} {Ls : Array Slot} {x : Int64} {rest : List Value} (hd : decode c.code pc = .ok (.lneg, 1)) (hp : pc + 1 = pc') (K : Goes p l e R s m args below meth c n0 mc ms Fn h k n (mkF m pc' Ls (.long (-x) :: rest))) : Goes p l e R s m args below meth c n0 mc ms Fn h k n (mkF m pc Ls (.long x :: rest)) := by
  subst hp; exact K.pure fun T locs t X hs => XS.lneg X.here hx rfl hd rfl hs
theorem i2l (hx : p.tables.exec = Jvm.exec) {pc pc' : Nat} {Ls : Array Slot} {x : Int32} {rest : List Value} (hd : decode c.code pc = .ok (.i2l, 1)) (hp : pc + 1 = pc') (K : Goes p l e R s m args below meth c n0 mc ms Fn h k n (mkF m pc' Ls (.long (x.toInt64) :: rest))) : Goes p l e R s m args below meth c n0 mc ms Fn h k n (mkF m pc Ls (.int x :: rest)) := by
  subst hp; exact K.pure fun T locs t X hs => XS.i2l X.here hx rfl hd rfl hs
theorem l2i (hx : p.tables.exec = Jvm.exec) {pc pc' : Nat} {Ls : Array Slot} {x : Int64} {rest : List Value} (hd : decode c.code pc = .ok (.l2i, 1)) (hp : pc + 1 = pc') (K : Goes p l e R s m args below meth c n0 mc ms Fn h k n (mkF m pc' Ls (.int (x.toInt32) :: rest))) : Goes p l e R s m args below meth c n0 mc ms Fn h k n (mkF m pc Ls (.long x :: rest)) := by
  subst hp; exact K.pure fun T locs t X hs => XS.l2i X.here hx rfl hd rfl hs
theorem i2b (hx : p.tables.exec = Jvm.exec) {pc pc' : Nat} {Ls : Array Slot} {x : Int32} {rest : List Value} (hd : decode c.code pc = .ok (.i2b, 1)) (hp : pc + 1 = pc') (K : Goes p l e R s m args below meth c n0 mc ms Fn h k n (mkF m pc' Ls (.int (x.toInt8.toInt32) :: rest))) : Goes p l e R s m args below meth c n0 mc ms Fn h k n (mkF m pc Ls (.int x :: rest)) := by
  subst hp; exact K.pure fun T locs t X hs => XS.i2b X.here hx rfl hd rfl hs
theorem i2s (hx : p.tables.exec = Jvm.exec) {pc pc' : Nat} {Ls : Array Slot} {x : Int32} {rest : List Value} (hd : decode c.code pc = .ok (.i2s, 1)) (hp : pc + 1 = pc') (K : Goes p l e R s m args below meth c n0 mc ms Fn h k n (mkF m pc' Ls (.int (x.toInt16.toInt32) :: rest))) : Goes p l e R s m args below meth c n0 mc ms Fn h k n (mkF m pc Ls (.int x :: rest)) := by
  subst hp; exact K.pure fun T locs t X hs => XS.i2s X.here hx rfl hd rfl hs
theorem i2c (hx : p.tables.exec = Jvm.exec) {pc pc' : Nat} {Ls : Array Slot} {x : Int32} {rest : List Value} (hd : decode c.code pc = .ok (.i2c, 1)) (hp : pc + 1 = pc') (K : Goes p l e R s m args below meth c n0 mc ms Fn h k n (mkF m pc' Ls (.int (x.toUInt32.toUInt16.toUInt32.toInt32) :: rest))) : Goes p l e R s m args below meth c n0 mc ms Fn h k n (mkF m pc Ls (.int x :: rest)) := by
  subst hp; exact K.pure fun T locs t X hs => XS.i2c X.here hx rfl hd rfl hs
theorem iload (hx : p.tables.exec = Jvm.exec) {pc pc' i : Nat} {Ls : Array Slot} (x : Int32) {rest : List Value} (hd : decode c.code pc = .ok (.iload i, 2)) (hp : pc + 2 = pc') (hl : Ls[i]? = some (.val (.int x))) (K : Goes p l e R s m args below meth c n0 mc ms Fn h k n (mkF m pc' Ls (.int x :: rest))) : Goes p l e R s m args below meth c n0 mc ms Fn h k n (mkF m pc Ls rest) := by
  subst hp; exact K.pure fun T locs t X hs => XS.iload X.here hx rfl hd hl hs
theorem iloadN (hx : p.tables.exec = Jvm.exec) {pc pc' : Nat} {i : Fin 4} {Ls : Array Slot} (x : Int32) {rest : List Value} (hd : decode c.code pc = .ok (.iload_n i, 1)) (hp : pc + 1 = pc') (hl : Ls[i.val]? = some (.val (.int x))) (K : Goes p l e R s m args below meth c n0 mc ms Fn h k n (mkF m pc' Ls (.int x :: rest))) : Goes p l e R s m args below meth c n0 mc ms Fn h k n (mkF m pc Ls rest) := by
  subst hp; exact K.pure fun T locs t X hs => XS.iloadN X.here hx rfl hd hl hs
theorem lload (hx : p.tables.exec = Jvm.exec) {pc pc' i : Nat} {Ls : Array Slot} (x : Int64) {rest : List Value} (hd : decode c.code pc = .ok (.lload i, 2)) (hp : pc + 2 = pc') (hl : Ls[i]? = some (.val (.long x))) (K : Goes p l e R s m args below meth c n0 mc ms Fn h k n (mkF m pc' Ls (.long x :: rest))) : Goes p l e R s m args below meth c n0 mc ms Fn h k n (mkF m pc Ls rest) := by
  subst hp; exact K.pure fun T locs t X hs => XS.lload X.here hx rfl hd hl hs
theorem lloadN (hx : p.tables.exec = Jvm.exec) {pc pc' : Nat} {i : Fin 4} {Ls : Array Slot} (x : Int64) {rest : List Value} (hd : decode c.code pc = .ok (.lload_n i, 1)) (hp : pc + 1 = pc') (hl : Ls[i.val]? = some (.val (.long x))) (K : Goes p l e R s m args below meth c n0 mc ms Fn h k n (mkF m pc' Ls (.long x :: rest))) : Goes p l e R s m args below meth c n0 mc ms Fn h k n (mkF m pc Ls rest) := by
  subst hp; exact K.pure fun T locs t X hs => XS.lloadN X.here hx rfl hd hl hs
theorem aload (hx : p.tables.exec = Jvm.exec) {pc pc' i : Nat} {Ls : Array Slot} (x : Value) {rest : List Value} (hd : decode c.code pc = .ok (.aload i, 2)) (hp : pc + 2 = pc') (hl : Ls[i]? = some (.val x)) (hv : x.isRef = true) (K : Goes p l e R s m args below meth c n0 mc ms Fn h k n (mkF m pc' Ls (x :: rest))) : Goes p l e R s m args below meth c n0 mc ms Fn h k n (mkF m pc Ls rest) := by
  subst hp; exact K.pure fun T locs t X hs => XS.aload X.here hx rfl hd hl hv hs
theorem aloadN (hx : p.tables.exec = Jvm.exec) {pc pc' : Nat} {i : Fin 4} {Ls : Array Slot} (x : Value) {rest : List Value} (hd : decode c.code pc = .ok (.aload_n i, 1)) (hp : pc + 1 = pc') (hl : Ls[i.val]? = some (.val x)) (hv : x.isRef = true) (K : Goes p l e R s m args below meth c n0 mc ms Fn h k n (mkF m pc' Ls (x :: rest))) : Goes p l e R s m args below meth c n0 mc ms Fn h k n (mkF m pc Ls rest) := by
  subst hp; exact K.pure fun T locs t X hs => XS.aloadN X.here hx rfl hd hl hv hs
theorem istore (hx : p.tables.exec = Jvm.exec) {pc pc' i : Nat} {Ls : Array Slot} {x : Int32} (z : Int32) (hz : z = x) {rest : List Value} (Ls' : Array Slot) (hd : decode c.code pc = .ok (.istore i, 2)) (hp : pc + 2 = pc') (hl : storeLocals Ls i (.int z) = some Ls') (K : Goes p l e R s m args below meth c n0 mc ms Fn h k n (mkF m pc' Ls' rest)) : Goes p l e R s m args below meth c n0 mc ms Fn h k n (mkF m pc Ls (.int x :: rest)) := by
  subst hp hz; exact K.pure fun T locs t X hs => XS.istore X.here hx rfl hd rfl hl hs
theorem istoreN (hx : p.tables.exec = Jvm.exec) {pc pc' : Nat} {i : Fin 4} {Ls : Array Slot} {x : Int32} (z : Int32) (hz : z = x) {rest : List Value} (Ls' : Array Slot) (hd : decode c.code pc = .ok (.istore_n i, 1)) (hp : pc + 1 = pc') (hl : storeLocals Ls i.val (.int z) = some Ls') (K : Goes p l e R s m args below meth c n0 mc ms Fn h k n (mkF m pc' Ls' rest)) : Goes p l e R s m args below meth c n0 mc ms Fn h k n (mkF m pc Ls (.int x :: rest)) := by
  subst hp hz; exact K.pure fun T locs t X hs => XS.istoreN X.here hx rfl hd rfl hl hs
theorem lstore (hx : p.tables.exec = Jvm.exec) {pc pc' i : Nat} {Ls : Array Slot} {x : Int64} (z : Int64) (hz : z = x) {rest : List Value} (Ls' : Array Slot) (hd : decode c.code pc = .ok (.lstore i, 2)) (hp : pc + 2 = pc') (hl : storeLocals Ls i (.long z) = some Ls') (K : Goes p l e R s m args below meth c n0 mc ms Fn h k n (mkF m pc' Ls' rest)) : Goes p l e R s m args below meth c n0 mc ms Fn h k n (mkF m pc Ls (.long x :: rest)) := by
  subst hp hz; exact K.pure fun T locs t X hs => XS.lstore X.here hx rfl hd rfl hl hs
theorem lstoreN (hx : p.tables.exec = Jvm.exec) {pc pc' : Nat} {i : Fin 4} {Ls : Array Slot} {x : Int64} (z : Int64) (hz : z = x) {rest : List Value} (Ls' : Array Slot) (hd : decode c.code pc = .ok (.lstore_n i, 1)) (hp : pc + 1 = pc') (hl : storeLocals Ls i.val (.long z) = some Ls') (K : Goes p l e R s m args below meth c n0 mc ms Fn h k n (mkF m pc' Ls' rest)) : Goes p l e R s m args below meth c n0 mc ms Fn h k n (mkF m pc Ls (.long x :: rest)) := by
  subst hp hz; exact K.pure fun T locs t X hs => XS.lstoreN X.here hx rfl hd rfl hl hs
theorem astore (hx : p.tables.exec = Jvm.exec) {pc pc' i : Nat} {Ls : Array Slot} {x : Value} {rest : List Value} (Ls' : Array Slot) (hd : decode c.code pc = .ok (.astore i, 2)) (hp : pc + 2 = pc') (hv : x.isRef = true) (hl : storeLocals Ls i x = some Ls') (K : Goes p l e R s m args below meth c n0 mc ms Fn h k n (mkF m pc' Ls' rest)) : Goes p l e R s m args below meth c n0 mc ms Fn h k n (mkF m pc Ls (x :: rest)) := by
  subst hp; exact K.pure fun T locs t X hs => XS.astore X.here hx rfl hd rfl hv hl hs
theorem astoreN (hx : p.tables.exec = Jvm.exec) {pc pc' : Nat} {i : Fin 4} {Ls : Array Slot} {x : Value} {rest : List Value} (Ls' : Array Slot) (hd : decode c.code pc = .ok (.astore_n i, 1)) (hp : pc + 1 = pc') (hv : x.isRef = true) (hl : storeLocals Ls i.val x = some Ls') (K : Goes p l e R s m args below meth c n0 mc ms Fn h k n (mkF m pc' Ls' rest)) : Goes p l e R s m args below meth c n0 mc ms Fn h k n (mkF m pc Ls (x :: rest)) := by
  subst hp; exact K.pure fun T locs t X hs => XS.astoreN X.here hx rfl hd rfl hv hl hs
theorem iinc (hx : p.tables.exec = Jvm.exec) {pc pc' i : Nat} {ct : Int} {Ls : Array Slot} {x : Int32} (z : Int32) {rest : List Value} (Ls' : Array Slot) (hd : decode c.code pc = .ok (.iinc i ct, 3)) (hp : pc + 3 = pc') (hl : Ls[i]? = some (.val (.int x))) (hz : z = x + Int32.ofInt ct) (hl' : storeLocals Ls i (.int z) = some Ls') (K : Goes p l e R s m args below meth c n0 mc ms Fn h k n (mkF m pc' Ls' rest)) : Goes p l e R s m args below meth c n0 mc ms Fn h k n (mkF m pc Ls rest) := by
  subst hp hz; exact K.pure fun T locs t X hs => XS.iinc X.here hx rfl hd hl hl' hs
theorem iconst (hx : p.tables.exec = Jvm.exec) {pc pc' : Nat} {i : Int} {Ls : Array Slot} (z : Int32) {rest : List Value} (hd : decode c.code pc = .ok (.iconst i, 1)) (hp : pc + 1 = pc') (hz : Int32.ofInt i = z) (K : Goes p l e R s m args below meth c n0 mc ms Fn h k n (mkF m pc' Ls (.int z :: rest))) : Goes p l e R s m args below meth c n0 mc ms Fn h k n (mkF m pc Ls rest) := by
  subst hp hz; exact K.pure fun T locs t X hs => XS.iconst X.here hx rfl hd hs
theorem bipush (hx : p.tables.exec = Jvm.exec) {pc pc' : Nat} {i : Int} {Ls : Array Slot} (z : Int32) {rest : List Value} (hd : decode c.code pc = .ok (.bipush i, 2)) (hp : pc + 2 = pc') (hz : (Int8.ofInt i).toInt32 = z) (K : Goes p l e R s m args below meth c n0 mc ms Fn h k n (mkF m pc' Ls (.int z :: rest))) : Goes p l e R s m args below meth c n0 mc ms Fn h k n (mkF m pc Ls rest) := by
  subst hp hz; exact K.pure fun T locs t X hs => XS.bipush X.here hx rfl hd hs
theorem sipush (hx : p.tables.exec = Jvm.exec) {pc pc' : Nat} {i : Int} {Ls : Array Slot} (z : Int32) {rest : List Value} (hd : decode c.code pc = .ok (.sipush i, 3)) (hp : pc + 3 = pc') (hz : (Int16.ofInt i).toInt32 = z) (K : Goes p l e R s m args below meth c n0 mc ms Fn h k n (mkF m pc' Ls (.int z :: rest))) : Goes p l e R s m args below meth c n0 mc ms Fn h k n (mkF m pc Ls rest) := by
  subst hp hz; exact K.pure fun T locs t X hs => XS.sipush X.here hx rfl hd hs
theorem lconst (hx : p.tables.exec = Jvm.exec) {pc pc' : Nat} {i : Fin 2} {Ls : Array Slot} (z : Int64) {rest : List Value} (hd : decode c.code pc = .ok (.lconst i, 1)) (hp : pc + 1 = pc') (hz : Int64.ofNat i = z) (K : Goes p l e R s m args below meth c n0 mc ms Fn h k n (mkF m pc' Ls (.long z :: rest))) : Goes p l e R s m args below meth c n0 mc ms Fn h k n (mkF m pc Ls rest) := by
  subst hp hz; exact K.pure fun T locs t X hs => XS.lconst X.here hx rfl hd hs
theorem aconstNull (hx : p.tables.exec = Jvm.exec) {pc pc' : Nat} {Ls : Array Slot} {rest : List Value} (hd : decode c.code pc = .ok (.aconst_null, 1)) (hp : pc + 1 = pc') (K : Goes p l e R s m args below meth c n0 mc ms Fn h k n (mkF m pc' Ls (.null :: rest))) : Goes p l e R s m args below meth c n0 mc ms Fn h k n (mkF m pc Ls rest) := by
  subst hp; exact K.pure fun T locs t X hs => XS.aconstNull X.here hx rfl hd hs
theorem dup (hx : p.tables.exec = Jvm.exec) {pc pc' : Nat} {Ls : Array Slot} {x : Value} {rest : List Value} (hd : decode c.code pc = .ok (.dup, 1)) (hp : pc + 1 = pc') (hc : x.category = 1) (K : Goes p l e R s m args below meth c n0 mc ms Fn h k n (mkF m pc' Ls (x :: x :: rest))) : Goes p l e R s m args below meth c n0 mc ms Fn h k n (mkF m pc Ls (x :: rest)) := by
  subst hp; exact K.pure fun T locs t X hs => XS.dup X.here hx rfl hd rfl hc hs
theorem pop (hx : p.tables.exec = Jvm.exec) {pc pc' : Nat} {Ls : Array Slot} {x : Value} {rest : List Value} (hd : decode c.code pc = .ok (.pop, 1)) (hp : pc + 1 = pc') (hc : x.category = 1) (K : Goes p l e R s m args below meth c n0 mc ms Fn h k n (mkF m pc' Ls rest)) : Goes p l e R s m args below meth c n0 mc ms Fn h k n (mkF m pc Ls (x :: rest)) := by
  subst hp; exact K.pure fun T locs t X hs => XS.pop X.here hx rfl hd rfl hc hs
theorem dupX1 (hx : p.tables.exec = Jvm.exec) {pc pc' : Nat} {Ls : Array Slot} {x y : Value} {rest : List Value} (hd : decode c.code pc = .ok (.dup_x1, 1)) (hp : pc + 1 = pc') (hc : x.category = 1) (hc' : y.category = 1) (K : Goes p l e R s m args below meth c n0 mc ms Fn h k n (mkF m pc' Ls (x :: y :: x :: rest))) : Goes p l e R s m args below meth c n0 mc ms Fn h k n (mkF m pc Ls (x :: y :: rest)) := by
  subst hp; exact K.pure fun T locs t X hs => XS.dupX1 X.here hx rfl hd rfl hc hc' hs
theorem dup2 (hx : p.tables.exec = Jvm.exec) {pc pc' : Nat} {Ls : Array Slot} {x y : Value} {rest : List Value} (hd : decode c.code pc = .ok (.dup2, 1)) (hp : pc + 1 = pc') (hc : x.category = 1) (hc' : y.category = 1) (K : Goes p l e R s m args below meth c n0 mc ms Fn h k n (mkF m pc' Ls (x :: y :: x :: y :: rest))) : Goes p l e R s m args below meth c n0 mc ms Fn h k n (mkF m pc Ls (x :: y :: rest)) := by
  subst hp; exact K.pure fun T locs t X hs => XT.dup2 X.here hx rfl hd rfl hc hc' hs
theorem dup2L (hx : p.tables.exec = Jvm.exec) {pc pc' : Nat} {Ls : Array Slot} {x : Int64} {rest : List Value} (hd : decode c.code pc = .ok (.dup2, 1)) (hp : pc + 1 = pc') (K : Goes p l e R s m args below meth c n0 mc ms Fn h k n (mkF m pc' Ls (.long x :: .long x :: rest))) : Goes p l e R s m args below meth c n0 mc ms Fn h k n (mkF m pc Ls (.long x :: rest)) := by
  subst hp; exact K.pure fun T locs t X hs => XT.dup2L X.here hx rfl hd rfl hs
theorem goto (hx : p.tables.exec = Jvm.exec) {pc pc' : Nat} {o : Int} {Ls : Array Slot} {st : List Value} (hd : decode c.code pc = .ok (.goto o, 3)) (ho : 0 ≤ (pc : Int) + o) (hp : ((pc : Int) + o).toNat = pc') (K : Goes p l e R s m args below meth c n0 mc ms Fn h k n (mkF m pc' Ls st)) : Goes p l e R s m args below meth c n0 mc ms Fn h k n (mkF m pc Ls st) :=
  K.pure fun T locs t X hs => XS.goto X.here hx rfl rfl hd ho hp hs
theorem ifF (hx : p.tables.exec = Jvm.exec) {Pr : Prop} [Decidable Pr] {cd : ClassFile.Cond} {x : Int32} (hq : ifCond.holds cd x = decide Pr) {pc pcN pcT : Nat} {o : Int} {Ls : Array Slot} {rest : List Value} (hd : decode c.code pc = .ok (.ifCond cd o, 3)) (hn : pc + 3 = pcN) (ho : 0 ≤ (pc : Int) + o) (hp : ((pc : Int) + o).toNat = pcT)
    (KT : Pr → Goes p l e R s m args below meth c n0 mc ms Fn h k n (mkF m pcT Ls rest)) (KN : ¬ Pr → Goes p l e R s m args below meth c n0 mc ms Fn h k n (mkF m pcN Ls rest)) : Goes p l e R s m args below meth c n0 mc ms Fn h k n (mkF m pc Ls (.int x :: rest)) := by
  subst hn
  by_cases hP : Pr
  · exact (KT hP).pure fun T locs t X hs => XS.ifYes X.here hx rfl rfl hd rfl (by rw [hq]; exact decide_eq_true hP) ho hp hs
  · exact (KN hP).pure fun T locs t X hs => XS.ifNo X.here hx rfl hd rfl (by rw [hq]; exact decide_eq_false hP) hs
theorem icmpF (hx : p.tables.exec = Jvm.exec) {Pr : Prop} [Decidable Pr] {cd : ClassFile.Cond} {x y : Int32} (hq : if_icmp.holds cd x y = decide Pr) {pc pcN pcT : Nat} {o : Int} {Ls : Array Slot} {rest : List Value} (hd : decode c.code pc = .ok (.if_icmp cd o, 3)) (hn : pc + 3 = pcN) (ho : 0 ≤ (pc : Int) + o) (hp : ((pc : Int) + o).toNat = pcT)
    (KT : Pr → Goes p l e R s m args below meth c n0 mc ms Fn h k n (mkF m pcT Ls rest)) (KN : ¬ Pr → Goes p l e R s m args below meth c n0 mc ms Fn h k n (mkF m pcN Ls rest)) : Goes p l e R s m args below meth c n0 mc ms Fn h k n (mkF m pc Ls (.int y :: .int x :: rest)) := by
  subst hn
  by_cases hP : Pr
  · exact (KT hP).pure fun T locs t X hs => XS.icmpYes X.here hx rfl rfl hd rfl (by rw [hq]; exact decide_eq_true hP) ho hp hs
  · exact (KN hP).pure fun T locs t X hs => XS.icmpNo X.here hx rfl hd rfl (by rw [hq]; exact decide_eq_false hP) hs
theorem ifFn (hx : p.tables.exec = Jvm.exec) {Pr : Prop} [Decidable Pr] {cd : ClassFile.Cond} {x : Int32} (hq : ifCond.holds cd x = decide (¬ Pr)) {pc pcN pcT : Nat} {o : Int} {Ls : Array Slot} {rest : List Value} (hd : decode c.code pc = .ok (.ifCond cd o, 3)) (hn : pc + 3 = pcN) (ho : 0 ≤ (pc : Int) + o) (hp : ((pc : Int) + o).toNat = pcT)
    (KT : ¬ Pr → Goes p l e R s m args below meth c n0 mc ms Fn h k n (mkF m pcT Ls rest)) (KN : Pr → Goes p l e R s m args below meth c n0 mc ms Fn h k n (mkF m pcN Ls rest)) : Goes p l e R s m args below meth c n0 mc ms Fn h k n (mkF m pc Ls (.int x :: rest)) := ifF hx hq hd hn ho hp KT fun q => KN (Decidable.of_not_not q)
theorem icmpFn (hx : p.tables.exec = Jvm.exec) {Pr : Prop} [Decidable Pr] {cd : ClassFile.Cond} {x y : Int32} (hq : if_icmp.holds cd x y = decide (¬ Pr)) {pc pcN pcT : Nat} {o : Int} {Ls : Array Slot} {rest : List Value} (hd : decode c.code pc = .ok (.if_icmp cd o, 3)) (hn : pc + 3 = pcN) (ho : 0 ≤ (pc : Int) + o) (hp : ((pc : Int) + o).toNat = pcT)
    (KT : ¬ Pr → Goes p l e R s m args below meth c n0 mc ms Fn h k n (mkF m pcT Ls rest)) (KN : Pr → Goes p l e R s m args below meth c n0 mc ms Fn h k n (mkF m pcN Ls rest)) : Goes p l e R s m args below meth c n0 mc ms Fn h k n (mkF m pc Ls (.int y :: .int x :: rest)) := icmpF hx hq hd hn ho hp KT fun q => KN (Decidable.of_not_not q)
theorem q_eq (x y : Int32) : if_icmp.holds .eq x y = decide (x = y) := by by_cases q : x = y <;> simp [if_icmp.holds, q]
theorem q_ne (x y : Int32) : if_icmp.holds .ne x y = decide (¬ x = y) := by by_cases q : x = y <;> simp [if_icmp.holds, q]
theorem q_lt (x y : Int32) : if_icmp.holds .lt x y = decide (x < y) := by by_cases q : x < y <;> simp [q, (tlt ·), (flt ·)]
theorem q_ge (x y : Int32) : if_icmp.holds .ge x y = decide (¬ x < y) := by by_cases q : x < y <;> simp [q, (tlt ·), (flt ·)]
theorem q_gt (x y : Int32) : if_icmp.holds .gt x y = decide (y < x) := by by_cases q : y < x <;> simp [q, (tlt ·), (flt ·)]
theorem q_le (x y : Int32) : if_icmp.holds .le x y = decide (¬ y < x) := by by_cases q : y < x <;> simp [q, (tlt ·), (flt ·)]
theorem z_eq (x : Int32) : ifCond.holds .eq x = decide (x = 0) := (if0 _ _).trans (q_eq x 0)
theorem z_ne (x : Int32) : ifCond.holds .ne x = decide (¬ x = 0) := (if0 _ _).trans (q_ne x 0)
theorem z_lt (x : Int32) : ifCond.holds .lt x = decide (x < 0) := (if0 _ _).trans (q_lt x 0)
theorem z_ge (x : Int32) : ifCond.holds .ge x = decide (¬ x < 0) := (if0 _ _).trans (q_ge x 0)
theorem z_gt (x : Int32) : ifCond.holds .gt x = decide (0 < x) := (if0 _ _).trans (q_gt x 0)
theorem z_le (x : Int32) : ifCond.holds .le x = decide (¬ 0 < x) := (if0 _ _).trans (q_le x 0)
theorem w_eq (x y : Int64) : ifCond.holds .eq (lcmpW x y) = decide (x = y) := (z_eq _).trans (by simp only [lw_eq])
theorem w_ne (x y : Int64) : ifCond.holds .ne (lcmpW x y) = decide (¬ x = y) := (z_ne _).trans (by simp only [lw_eq])
theorem w_lt (x y : Int64) : ifCond.holds .lt (lcmpW x y) = decide (x < y) := (z_lt _).trans (by simp only [lw_lt])
theorem w_ge (x y : Int64) : ifCond.holds .ge (lcmpW x y) = decide (¬ x < y) := (z_ge _).trans (by simp only [lw_lt])
theorem w_gt (x y : Int64) : ifCond.holds .gt (lcmpW x y) = decide (y < x) := (z_gt _).trans (by simp only [lw_gt])
theorem w_le (x y : Int64) : ifCond.holds .le (lcmpW x y) = decide (¬ y < x) := (z_le _).trans (by simp only [lw_gt])
theorem ifnullN (hx : p.tables.exec = Jvm.exec) {pc pcN : Nat} {o : Int} {a : Addr} {Ls : Array Slot} {rest : List Value} (hd : decode c.code pc = .ok (.ifnull o, 3)) (hn : pc + 3 = pcN) (K : Goes p l e R s m args below meth c n0 mc ms Fn h k n (mkF m pcN Ls rest)) : Goes p l e R s m args below meth c n0 mc ms Fn h k n (mkF m pc Ls (.ref a :: rest)) := by
  subst hn; exact K.pure fun T locs t X hs => XS.ifnullNo X.here hx rfl hd rfl hs
theorem ifnullY (hx : p.tables.exec = Jvm.exec) {pc pcT : Nat} {o : Int} {Ls : Array Slot} {rest : List Value} (hd : decode c.code pc = .ok (.ifnull o, 3)) (ho : 0 ≤ (pc : Int) + o) (hp : ((pc : Int) + o).toNat = pcT) (K : Goes p l e R s m args below meth c n0 mc ms Fn h k n (mkF m pcT Ls rest)) : Goes p l e R s m args below meth c n0 mc ms Fn h k n (mkF m pc Ls (.null :: rest)) :=
  K.pure fun T locs t X hs => XS.ifnullYes X.here hx rfl rfl hd rfl ho hp hs
theorem ifnonnullN (hx : p.tables.exec = Jvm.exec) {pc pcN : Nat} {o : Int} {Ls : Array Slot} {rest : List Value} (hd : decode c.code pc = .ok (.ifnonnull o, 3)) (hn : pc + 3 = pcN) (K : Goes p l e R s m args below meth c n0 mc ms Fn h k n (mkF m pcN Ls rest)) : Goes p l e R s m args below meth c n0 mc ms Fn h k n (mkF m pc Ls (.null :: rest)) := by
  subst hn; exact K.pure fun T locs t X hs => XS.ifnonnullNo X.here hx rfl hd rfl hs
theorem ifnonnullY (hx : p.tables.exec = Jvm.exec) {pc pcT : Nat} {o : Int} {a : Addr} {Ls : Array Slot} {rest : List Value} (hd : decode c.code pc = .ok (.ifnonnull o, 3)) (ho : 0 ≤ (pc : Int) + o) (hp : ((pc : Int) + o).toNat = pcT) (K : Goes p l e R s m args below meth c n0 mc ms Fn h k n (mkF m pcT Ls rest)) : Goes p l e R s m args below meth c n0 mc ms Fn h k n (mkF m pc Ls (.ref a :: rest)) :=
  K.pure fun T locs t X hs => XS.ifnonnullYes X.here hx rfl rfl hd rfl ho hp hs
theorem ldc (hx : p.tables.exec = Jvm.exec) {Z : State} (hZ : Z.Warmed39 s.vm) {a0 : Array Value} {own : String} (hown : s.vm.findClass own = some m.cls) {pc pc' i : Nat} {Ls : Array Slot} (z : Int32) {rest : List Value} (hd : decode c.code pc = .ok (.ldc i, 2)) (hp : pc + 2 = pc') (w : (Jvm.Cond.constant own i z).before a0 Z = true) (K : Goes p l e R s m args below meth c n0 mc ms Fn h k n (mkF m pc' Ls (.int z :: rest))) : Goes p l e R s m args below meth c n0 mc ms Fn h k n (mkF m pc Ls rest) := by
  subst hp; exact K.pure fun T locs t X hs => X.ldcInt hx hown (mvT hZ w) (g := mkF m pc Ls rest) rfl hd t hs
theorem ldc2 (hx : p.tables.exec = Jvm.exec) {Z : State} (hZ : Z.Warmed39 s.vm) {a0 : Array Value} {own : String} (hown : s.vm.findClass own = some m.cls) {pc pc' i : Nat} {Ls : Array Slot} (z : Int64) {rest : List Value} (hd : decode c.code pc = .ok (.ldc2_w i, 3)) (hp : pc + 3 = pc') (w : (Jvm.Cond.constantLong own i z).before a0 Z = true) (K : Goes p l e R s m args below meth c n0 mc ms Fn h k n (mkF m pc' Ls (.long z :: rest))) : Goes p l e R s m args below meth c n0 mc ms Fn h k n (mkF m pc Ls rest) := by
  subst hp; exact K.pure fun T locs t X hs => X.ldc2Long hx hown (mvT hZ w) (g := mkF m pc Ls rest) rfl hd t hs
/-- the end of a walk -/
theorem endOf {v : Option Value} {g : JFrame} (hlk : meth.locks = false) (hv : meth.sig.returnType = none → v = none)
    (st : ∀ (T : State) (locs : List Loc) (fs : List Frame), Stand p l e R s m args below meth c T locs k n → (∀ (f : JFrame) (acts : List Action), f.method = m → f.locked = none → f.entered = [] → (doReturn e (T.setTop f) acts v).1 = T.setFrames fs) → Steps p.tables e below (T.setTop g) (T.setFrames fs))
    (hk : k ≤ mc) (hn : n ≤ ms) (hF : Fn v h) : Goes p l e R s m args below meth c n0 mc ms Fn h k n g := fun T locs X N eT => by
  obtain ⟨fs, hr, hrun, hended, hW, hsame⟩ := X.leave hv hlk
  refine ⟨_, _, st T locs fs X hr, hrun, hended, v, locs, rfl, ⟨?_, N⟩, ⟨_, rfl⟩, hW, hsame.mono hk hn⟩
  show Fn v T.heap
  rw [eT]; exact hF
theorem retI (hx : p.tables.exec = Jvm.exec) (hret : meth.sig.returnType = some .int) (hlk : meth.locks = false) {pc : Nat} {Ls : Array Slot} {z : Int32} {rest : List Value} (hd : decode c.code pc = .ok (.ireturn, 1)) (hk : k ≤ mc) (hn : n ≤ ms) (hF : Fn (some (.int z)) h) : Goes p l e R s m args below meth c n0 mc ms Fn h k n (mkF m pc Ls (.int z :: rest)) :=
  endOf hlk (fun q => by rw [hret] at q; cases q) (fun T locs fs X hr => retOut X hx hret rfl (Or.inl ⟨rfl, Or.inl rfl, _, rfl⟩) hd hr) hk hn hF
theorem retL (hx : p.tables.exec = Jvm.exec) (hret : meth.sig.returnType = some .long) (hlk : meth.locks = false) {pc : Nat} {Ls : Array Slot} {z : Int64} {rest : List Value} (hd : decode c.code pc = .ok (.lreturn, 1)) (hk : k ≤ mc) (hn : n ≤ ms) (hF : Fn (some (.long z)) h) : Goes p l e R s m args below meth c n0 mc ms Fn h k n (mkF m pc Ls (.long z :: rest)) :=
  endOf hlk (fun q => by rw [hret] at q; cases q) (fun T locs fs X hr => retOut X hx hret rfl (Or.inr (Or.inl ⟨rfl, rfl, _, rfl⟩)) hd hr) hk hn hF
theorem retA (hx : p.tables.exec = Jvm.exec) {ty : FieldType} (hret : meth.sig.returnType = some ty) (hty : ty.isReference = true) (hlk : meth.locks = false) {pc : Nat} {Ls : Array Slot} {w : Value} {rest : List Value} (hw : w.isRef = true) (hnr : narrow ty w = w) (hd : decode c.code pc = .ok (.areturn, 1)) (hk : k ≤ mc) (hn : n ≤ ms) (hF : Fn (some w) h) : Goes p l e R s m args below meth c n0 mc ms Fn h k n (mkF m pc Ls (w :: rest)) :=
  endOf hlk (fun q => by rw [hret] at q; cases q) (fun T locs fs X hr => retOut X hx hret hnr (Or.inr (Or.inr (Or.inr (Or.inr ⟨rfl, hty, hw⟩)))) hd hr) hk hn hF
theorem retS (hx : p.tables.exec = Jvm.exec) {ty : FieldType} (hret : meth.sig.returnType = some ty) (hty : ty = .boolean ∨ ty = .byte ∨ ty = .char ∨ ty = .short) (hlk : meth.locks = false) {pc : Nat} {Ls : Array Slot} {z : Int32} {rest : List Value} (hd : decode c.code pc = .ok (.ireturn, 1)) (hk : k ≤ mc) (hn : n ≤ ms) (hF : Fn (some (.int (nar ty z))) h) : Goes p l e R s m args below meth c n0 mc ms Fn h k n (mkF m pc Ls (.int z :: rest)) :=
  endOf hlk (fun q => by rw [hret] at q; cases q) (fun T locs fs X hr => retN X hx hret hty hd hr) hk hn hF
theorem retV (hx : p.tables.exec = Jvm.exec) (hret : meth.sig.returnType = none) (hlk : meth.locks = false) {pc : Nat} {Ls : Array Slot} (hd : decode c.code pc = .ok (.return_, 1)) (hk : k ≤ mc) (hn : n ≤ ms) (hF : Fn none h) : Goes p l e R s m args below meth c n0 mc ms Fn h k n (mkF m pc Ls []) :=
  endOf hlk (fun _ => rfl) (fun T locs fs X hr => X.returnOut hx hret hd hr) hk hn hF
/-- a static method by its contract -/
theorem callS (hx : p.tables.exec = Jvm.exec) {Z : State} (hZ : Z.Warmed39 s.vm) {a0 : Array Value} {own : String} (hown : s.vm.findClass own = some m.cls) {i : Nat} {y : MethodName} {bytes : ByteArray} {maxL : Nat} {ret : Option FieldType} {rm : Room} {F : Option Value → Heap → Prop} {argsL rest : List Value}
    (w1 : (Jvm.Cond.methodLink own i y).before a0 Z = true) (w2 : (Jvm.Cond.static y).before a0 Z = true) (w3 : (Jvm.Cond.initialized y.cls).before a0 Z = true) (w4 : (Jvm.Cond.code y bytes maxL ret).before a0 Z = true) (hy : y.cls ≠ "java/lang/invoke/MethodHandle" ∧ y.cls ≠ "java/lang/invoke/VarHandle")
    {sg : ClassFile.MethodDescriptor} (hsg : parseMethodDescriptor y.desc = some sg) (hlen : argsL.length = sg.parameters.length) {pc pc' : Nat} {Ls : Array Slot} {W : Nat} (hW : (rest.map fun v => v.category).sum ≤ W) (hf : rm.frames + 1 ≤ R.frames) (hl : W + (maxL + 11) + rm.locals ≤ R.locals) (hcl : k + rm.cells ≤ R.cells) (hsl : n + rm.slots ≤ R.slots)
    {k' n' : Nat} (hk' : k + rm.cells = k') (hn' : n + rm.slots = n') (hml : Ls.size = c.maxLocals) (st : List Value) (hst : st = argsL.reverse ++ rest) (hd : decode c.code pc = .ok (.invokestatic i, 3)) (hp : pc + 3 = pc') (D : Does l y bytes maxL ret [] rm Z argsL.toArray h n0 F)
    (K : ∀ v h', F v h' → Goes p l e R s m args below meth c n0 mc ms Fn h' k' n' (mkF m pc' Ls (v.toList ++ rest))) : Goes p l e R s m args below meth c n0 mc ms Fn h k n (mkF m pc Ls st) := fun T locs X N eT => by
  subst hp hst hk' hn'
  obtain ⟨v, _, ⟨T', L', k', n'⟩, -, X', ⟨Lc, hQ, l1, y1, z1⟩, st⟩ := Jvm.LawKit.callS X hx (y := y) hown (mvT hZ w1) (mvT hZ w2) (mvT hZ w3) (mvT hZ w4) hy (backOf (W := W) (Q := fun v h' L => F v h' ∧ Fr n0 L) D hZ w4 w3 hf hl) (g := mkF m pc Ls (argsL.reverse ++ rest)) rfl hml (argsL := argsL) (rest := rest) (lenOf hsg hlen) rfl (by show 2 * 0 + _ ≤ _; omega) hd (fun _ _ => ⟨rfl, eT, hcl, hsl⟩)
  dsimp only [Pt.U, Pt.locs, Pt.cells, Pt.slots] at X' l1 y1 z1 st hQ
  subst l1 y1 z1
  obtain ⟨s₂, o, hs, r⟩ := K v T'.heap hQ.1 T' _ X' (N.app hQ.2) rfl
  exact ⟨s₂, o, st _ hs, r⟩
theorem vI {x : Int32} (z : Int32) (q : x = z) {pc : Nat} {Ls : Array Slot} {rest : List Value} (K : Goes p l e R s m args below meth c n0 mc ms Fn h k n (mkF m pc Ls (.int z :: rest))) : Goes p l e R s m args below meth c n0 mc ms Fn h k n (mkF m pc Ls (.int x :: rest)) := by subst q; exact K
theorem vL {x : Int64} (z : Int64) (q : x = z) {pc : Nat} {Ls : Array Slot} {rest : List Value} (K : Goes p l e R s m args below meth c n0 mc ms Fn h k n (mkF m pc Ls (.long z :: rest))) : Goes p l e R s m args below meth c n0 mc ms Fn h k n (mkF m pc Ls (.long x :: rest)) := by subst q; exact K
theorem bool1 {z : Int32} (q : z = 1) : (some (Value.int (nar .boolean z)) : Option Value) = some (.int 1) := by subst q; rfl
end Eng
end Own
namespace Own
section EngH
def FldC (Z : State) (C nm d : String) (v : Value) (cell : Cell) : Prop := ∃ (cf : ClassId) (kk : Class) (i : Nat) (f : Field), Z.fieldFound? C nm d = some (cf, kk, i, f) ∧ f.isStatic = false ∧ cell.vm ≠ .unknown ∧ cell.vm.isStatics = false ∧ Z.vm.assignable cell.cls cf = true ∧ cell.slots[f.slot]? = some v
def ExaC (Z : State) (C : String) (cell : Cell) : Prop := ∃ kk : Class, Z.vm.findClass C = some cell.cls ∧ Z.vm.classes[cell.cls]? = some kk ∧ cell.vm.isStatics = false ∧ (kk.kind = .ordinary → cell.slots.size = kk.instanceTypes.size)
/-- an object of just the class C with these fields (declaring class, name, descriptor) at these values -/
def ObjC (Z : State) (C : String) (fs : List ((String × String × String) × Value)) (cell : Cell) : Prop := ExaC Z C cell ∧ (∀ f ∈ fs, FldC Z f.1.1 f.1.2.1 f.1.2.2 f.2 cell) ∧ (fs.map fun f => Jvm.RoadKit.slotOf Z f.1.1 f.1.2.1 f.1.2.2).Nodup
/-- an array of the kind ty with these values -/
def ArrC (Z : State) (ty : FieldType) (vs : List Value) (cell : Cell) : Prop := Z.isArrayOf cell ty ∧ cell.vm ≠ .unknown ∧ cell.slots.toList = vs ∧ ∀ v ∈ vs, fits ty v = true
/-- the cells at these places, all at or above n0 and unlike, are as said -/
def Owns (n0 : Nat) (h : Heap) (os : List (Addr × (Cell → Prop))) : Prop := n0 ≤ h.size ∧ (os.map Prod.fst).Nodup ∧ ∀ o ∈ os, n0 ≤ o.1 ∧ ∃ cell, h[o.1]? = some cell ∧ o.2 cell
variable {p : Program} {l : Launch} {e : Env} {R : Room} {s : State} {m : MethodId} {args : Array Value} {below : List Frame} {meth : Method} {c : Code} {n0 mc ms : Nat} {Fn : Option Value → Heap → Prop} {h h' : Heap} {k n : Nat} {Z : State} {a0 : Array Value} {os : List (Addr × (Cell → Prop))} {a : Addr}
theorem Owns.nil (q : n0 ≤ h.size) : Owns n0 h [] := ⟨q, List.nodup_nil, fun _ z => nomatch z⟩
theorem Owns.at (O : Owns n0 h os) {i : Nat} {P : Cell → Prop} (hi : os[i]? = some (a, P)) : n0 ≤ a ∧ ∃ cell, h[a]? = some cell ∧ P cell := O.2.2 (a, P) (List.mem_of_getElem? hi)
theorem Owns.lt (O : Owns n0 h os) {o : Addr × (Cell → Prop)} (ho : o ∈ os) : o.1 < h.size := by obtain ⟨-, cell, q, -⟩ := O.2.2 o ho; exact (Array.getElem?_eq_some_iff.mp q).1
theorem Owns.push {P : Cell → Prop} (O : Owns n0 h os) (E : Ext h h') (q : ∃ cell, h'[h.size]? = some cell ∧ P cell) : Owns n0 h' ((h.size, P) :: os) := by
  refine ⟨Nat.le_trans O.1 E.1, ?_, ?_⟩
  · rw [List.map_cons, List.nodup_cons]
    refine ⟨fun z => ?_, O.2.1⟩
    obtain ⟨o, ho, e1⟩ := List.mem_map.mp z
    exact absurd (O.lt ho) (by rw [e1]; exact Nat.lt_irrefl _)
  · intro o ho
    rcases List.mem_cons.mp ho with rfl | ho
    · exact ⟨O.1, q⟩
    · obtain ⟨q1, cell, q2, q3⟩ := O.2.2 o ho
      exact ⟨q1, cell, E.2 _ _ q2, q3⟩
theorem nodup_at {os : List (Addr × (Cell → Prop))} (hN : (os.map Prod.fst).Nodup) {i j : Nat} {P Q : Cell → Prop} (hi : os[i]? = some (a, P)) (hj : os[j]? = some (a, Q)) : i = j := by
  have h1 : (os.map Prod.fst)[i]? = some a := by rw [List.getElem?_map, hi]; rfl
  have h2 : (os.map Prod.fst)[j]? = some a := by rw [List.getElem?_map, hj]; rfl
  obtain ⟨l1, e1⟩ := List.getElem?_eq_some_iff.mp h1
  obtain ⟨l2, e2⟩ := List.getElem?_eq_some_iff.mp h2
  exact (List.getElem_inj hN).mp (e1.trans e2.symm)
/-- the cell at one owned place is another one now; all others stay -/
theorem Owns.upd {P P' : Cell → Prop} (O : Owns n0 h os) {i : Nat} (hi : os[i]? = some (a, P)) (hs : h.size ≤ h'.size) (ho : ∀ x cell, h[x]? = some cell → x ≠ a → h'[x]? = some cell) (ha : ∃ cell, h'[a]? = some cell ∧ P' cell) : Owns n0 h' (os.set i (a, P')) := by
  have hlt : i < os.length := (List.getElem?_eq_some_iff.mp hi).1
  refine ⟨Nat.le_trans O.1 hs, ?_, ?_⟩
  · have e1 : (os.set i (a, P')).map Prod.fst = os.map Prod.fst := by
      rw [List.map_set]
      refine List.ext_getElem? fun j => ?_
      rw [List.getElem?_set]
      split
      · next q => subst q; rw [List.getElem?_map, hi]; simp [hlt]
      · rfl
    rw [e1]; exact O.2.1
  · intro o hm
    obtain ⟨j, hj⟩ := List.getElem?_of_mem hm
    rw [List.getElem?_set] at hj
    split at hj
    · simp only [hlt, if_true, Option.some.injEq] at hj
      subst hj
      exact ⟨(O.at hi).1, ha⟩
    · next q =>
      obtain ⟨oa, oP⟩ := o
      obtain ⟨q1, cell, q2, q3⟩ := O.at hj
      refine ⟨q1, cell, ho _ _ q2 fun z => ?_, q3⟩
      subst z
      exact q (nodup_at O.2.1 hi hj)
theorem wr_get {sl : Nat} {v : Value} (W : Wr h h' a sl v) : h.size ≤ h'.size ∧ (∀ x cell, h[x]? = some cell → x ≠ a → h'[x]? = some cell) ∧ ∀ cell, h[a]? = some cell → h'[a]? = some (cell.setSlot sl v) := by
  obtain ⟨cell, h1, h2, h3, rfl⟩ := W
  refine ⟨by simp, fun x cx hx hne => ?_, fun c' hc' => ?_⟩
  · rw [Array.getElem?_setIfInBounds_ne (Ne.symm hne)]; exact hx
  · cases h1.symm.trans hc'
    have := (Array.getElem?_eq_some_iff.mp h1).1
    simp [this]
theorem Owns.wr {P P' : Cell → Prop} {sl : Nat} {v : Value} (O : Owns n0 h os) {i : Nat} (hi : os[i]? = some (a, P)) (W : Wr h h' a sl v) (q : ∀ cell, P cell → P' (cell.setSlot sl v)) : Owns n0 h' (os.set i (a, P')) := by
  obtain ⟨w1, w2, w3⟩ := wr_get W
  obtain ⟨-, cell, q1, q2⟩ := O.at hi
  exact O.upd hi w1 w2 ⟨_, w3 _ q1, q _ q2⟩
/-- the i-th object is brought to the front -/
theorem Owns.pick (O : Owns n0 h os) (i : Nat) {o : Addr × (Cell → Prop)} (hi : os[i]? = some o) : Owns n0 h (o :: os.eraseIdx i) := by
  have hlt : i < os.length := (List.getElem?_eq_some_iff.mp hi).1
  have hp : os.Perm (o :: os.eraseIdx i) := by
    have h2 : os[i] = o := (List.getElem?_eq_some_iff.mp hi).2
    have h3 : os = os.take i ++ o :: os.drop (i + 1) := by rw [← h2, List.getElem_cons_drop, List.take_append_drop]
    rw [List.eraseIdx_eq_take_drop_succ]
    conv => lhs; rw [h3]
    exact List.perm_middle
  exact ⟨O.1, (hp.map Prod.fst).nodup_iff.mp O.2.1, fun z hz => O.2.2 z (hp.mem_iff.mpr hz)⟩
theorem Owns.cast {os' : List (Addr × (Cell → Prop))} (O : Owns n0 h os) (q : os = os') : Owns n0 h os' := q ▸ O
theorem Owns.tail {o : Addr × (Cell → Prop)} (O : Owns n0 h (o :: os)) : Owns n0 h os := ⟨O.1, by have h1 := O.2.1; rw [List.map_cons, List.nodup_cons] at h1; exact h1.2, fun z hz => O.2.2 z (List.mem_cons_of_mem _ hz)⟩
theorem fld_of {C nm d : String} {v : Value} {cell : Cell} (q : h[a]? = some cell) (F : FldC Z C nm d v cell) : Fld Z h a C nm d v := by obtain ⟨cf, kk, i, f, r⟩ := F; exact ⟨cell, cf, kk, i, f, q, r⟩
theorem exa_of {C : String} {cell : Cell} (q : h[a]? = some cell) (F : ExaC Z C cell) : Exa Z h a C := by obtain ⟨kk, r⟩ := F; exact ⟨cell, kk, q, r⟩
theorem fldC_of {C nm d : String} {v : Value} {cell : Cell} (q : h[a]? = some cell) (F : Fld Z h a C nm d v) : FldC Z C nm d v cell := by obtain ⟨c', cf, kk, i, f, q', r⟩ := F; cases q.symm.trans q'; exact ⟨cf, kk, i, f, r⟩
theorem exaC_of {C : String} {cell : Cell} (q : h[a]? = some cell) (F : Exa Z h a C) : ExaC Z C cell := by obtain ⟨c', kk, q', r⟩ := F; cases q.symm.trans q'; exact ⟨kk, r⟩
theorem Owns.fld {C : String} {fs : List ((String × String × String) × Value)} (O : Owns n0 h os) {i j : Nat} (hi : os[i]? = some (a, ObjC Z C fs)) {C' nm d : String} {v : Value} (hj : fs[j]? = some ((C', nm, d), v)) : Fld Z h a C' nm d v := by
  obtain ⟨-, cell, q1, q2⟩ := O.at hi
  exact fld_of q1 (q2.2.1 _ (List.mem_of_getElem? hj))
theorem Owns.exa {C : String} {fs : List ((String × String × String) × Value)} (O : Owns n0 h os) {i : Nat} (hi : os[i]? = some (a, ObjC Z C fs)) : Exa Z h a C := by
  obtain ⟨-, cell, q1, q2⟩ := O.at hi
  exact exa_of q1 q2.1
theorem getfield (hx : p.tables.exec = Jvm.exec) (hZ : Z.Warmed39 s.vm) {own : String} (hown : s.vm.findClass own = some m.cls) (O : Owns n0 h os) (i j : Nat) {C C' nm d : String} {fs : List ((String × String × String) × Value)} (hi : os[i]? = some (a, ObjC Z C fs)) {v : Value} (hj : fs[j]? = some ((C', nm, d), v))
    {pc pc' idx : Nat} {Ls : Array Slot} {rest : List Value} (w : (Jvm.Cond.fieldLink own idx C' nm d).before a0 Z = true) (hd : decode c.code pc = .ok (.getfield idx, 3)) (hp : pc + 3 = pc') (K : Goes p l e R s m args below meth c n0 mc ms Fn h k n (mkF m pc' Ls (v :: rest))) : Goes p l e R s m args below meth c n0 mc ms Fn h k n (mkF m pc Ls (.ref a :: rest)) := by
  subst hp
  refine Goes.move (Pr := fun h' => h' = h) (k' := k) (n' := n) (g' := mkF m (pc + 3) Ls (v :: rest)) (fun T locs X N eT => ?_) (fun h' q => by rw [q]; exact K)
  obtain ⟨T', X', e', st⟩ := getF X hx hZ hown (host := "") (Or.inl w) Via.refl eT (O.fld hi hj) (g := mkF m pc Ls (.ref a :: rest)) rfl rfl hd
  exact ⟨T', locs, X', N, e', st⟩
theorem obj_set {C : String} {fs : List ((String × String × String) × Value)} {j : Nat} {C' nm d : String} {old v : Value} (hj : fs[j]? = some ((C', nm, d), old)) {cell : Cell} (q : ObjC Z C fs cell) : ObjC Z C (fs.set j ((C', nm, d), v)) (cell.setSlot (Jvm.RoadKit.slotOf Z C' nm d) v) := by
  obtain ⟨q1, q2, q3⟩ := q
  have hq : (#[cell] : Heap)[0]? = some cell := rfl
  have F0 := q2 _ (List.mem_of_getElem? hj)
  have hst : cell.vm.isStatics = false := by obtain ⟨_, _, _, _, _, _, _, r, _⟩ := F0; exact r
  have hsl : Jvm.RoadKit.slotOf Z C' nm d < cell.slots.size := by
    obtain ⟨cf, kk, i, f, r1, -, -, -, -, r2⟩ := F0
    have e1 : Jvm.RoadKit.slotOf Z C' nm d = f.slot := by simp [Jvm.RoadKit.slotOf, r1]
    rw [e1]; exact (Array.getElem?_eq_some_iff.mp r2).1
  have W : Wr #[cell] #[cell.setSlot (Jvm.RoadKit.slotOf Z C' nm d) v] 0 (Jvm.RoadKit.slotOf Z C' nm d) v := ⟨cell, hq, hst, hsl, by simp⟩
  have hq' : (#[cell.setSlot (Jvm.RoadKit.slotOf Z C' nm d) v] : Heap)[0]? = some (cell.setSlot (Jvm.RoadKit.slotOf Z C' nm d) v) := rfl
  have hlt : j < fs.length := (List.getElem?_eq_some_iff.mp hj).1
  have hslots : (fs.set j ((C', nm, d), v)).map (fun f => Jvm.RoadKit.slotOf Z f.1.1 f.1.2.1 f.1.2.2) = fs.map (fun f => Jvm.RoadKit.slotOf Z f.1.1 f.1.2.1 f.1.2.2) := by
    rw [List.map_set]
    refine List.ext_getElem? fun i => ?_
    rw [List.getElem?_set]
    split
    · next z => subst z; rw [List.getElem?_map, hj]; simp [hlt]
    · rfl
  refine ⟨exaC_of hq' ((exa_of hq q1).wr W), fun f hf => ?_, by rw [hslots]; exact q3⟩
  obtain ⟨i, hi⟩ := List.getElem?_of_mem hf
  rw [List.getElem?_set] at hi
  split at hi
  · simp only [hlt, if_true, Option.some.injEq] at hi
    subst hi
    exact fldC_of hq' ((fld_of hq F0).same W)
  · next z =>
    refine fldC_of hq' ((fld_of hq (q2 f (List.mem_of_getElem? hi))).other W (Or.inr fun y => z ?_))
    have h1 : (fs.map (fun f => Jvm.RoadKit.slotOf Z f.1.1 f.1.2.1 f.1.2.2))[i]? = some (Jvm.RoadKit.slotOf Z f.1.1 f.1.2.1 f.1.2.2) := by rw [List.getElem?_map, hi]; rfl
    have h2 : (fs.map (fun f => Jvm.RoadKit.slotOf Z f.1.1 f.1.2.1 f.1.2.2))[j]? = some (Jvm.RoadKit.slotOf Z C' nm d) := by rw [List.getElem?_map, hj]; rfl
    obtain ⟨l1, e1⟩ := List.getElem?_eq_some_iff.mp h1
    obtain ⟨l2, e2⟩ := List.getElem?_eq_some_iff.mp h2
    exact ((List.getElem_inj q3).mp (e1.trans (y.trans e2.symm))).symm
theorem putfield (hx : p.tables.exec = Jvm.exec) (hZ : Z.Warmed39 s.vm) {own : String} (hown : s.vm.findClass own = some m.cls) (O : Owns n0 h os) (i j : Nat) {C C' nm d : String} {fs : List ((String × String × String) × Value)} (hi : os[i]? = some (a, ObjC Z C fs)) {old v : Value} (hj : fs[j]? = some ((C', nm, d), old))
    {pc pc' idx kk : Nat} {Ls : Array Slot} {rest : List Value} (w : (Jvm.Cond.fieldLink own idx C' nm d).before a0 Z = true) (L : (Jvm.Cond.lays C C' nm d).before a0 Z = true ∨ ((Jvm.Cond.laysFinal C C' nm d).before a0 Z = true ∧ own = C' ∧ meth.name = "<init>")) (wi : (Jvm.Cond.instantiable C kk).before a0 Z = true)
    {ty : FieldType} (hty : parseFieldDescriptor d = some ty) (hnr : narrow ty v = v) (hf : fits ty v = true) (os' : List (Addr × (Cell → Prop))) (hos : os.set i (a, ObjC Z C (fs.set j ((C', nm, d), v))) = os')
    (hd : decode c.code pc = .ok (.putfield idx, 3)) (hp : pc + 3 = pc') (K : ∀ h', Owns n0 h' os' → Goes p l e R s m args below meth c n0 mc ms Fn h' k n (mkF m pc' Ls rest)) : Goes p l e R s m args below meth c n0 mc ms Fn h k n (mkF m pc Ls (v :: .ref a :: rest)) := by
  subst hp hos
  refine Goes.move (Pr := fun h' => Owns n0 h' (os.set i (a, ObjC Z C (fs.set j ((C', nm, d), v))))) (fun T locs X N eT => ?_) K
  obtain ⟨T', h', X', e', W, st⟩ := putF X hx hZ hown (host := "") (Or.inl w) Via.refl eT (O.fld hi hj) (O.exa hi) L wi hty hnr hf (g := mkF m pc Ls (v :: .ref a :: rest)) rfl rfl hd
  exact ⟨T', _, X', Fr.snoc X' N (O.at hi).1, by rw [e']; exact O.wr hi W fun cell q => obj_set hj q, st⟩
theorem nodup_slots {C : String} : ∀ {fs : List ((String × String × String) × Value)}, (∀ f ∈ fs, Laid Z a0 C f.1.1 f.1.2.1 f.1.2.2 ∧ ∃ ty, parseFieldDescriptor f.1.2.2 = some ty ∧ defaultValue ty = f.2) → (fs.map fun f => f.1.2.1).Nodup → (fs.map fun f => Jvm.RoadKit.slotOf Z f.1.1 f.1.2.1 f.1.2.2).Nodup
  | [], _, _ => List.nodup_nil
  | f :: fs, hL, hN => by
    rw [List.map_cons, List.nodup_cons] at hN ⊢
    refine ⟨fun z => ?_, nodup_slots (fun g hg => hL g (List.mem_cons_of_mem _ hg)) hN.2⟩
    obtain ⟨g, hg, e1⟩ := List.mem_map.mp z
    obtain ⟨L1, d1⟩ := hL f List.mem_cons_self
    obtain ⟨L2, d2⟩ := hL g (List.mem_cons_of_mem _ hg)
    obtain ⟨t1, t1', -⟩ := d1
    obtain ⟨t2, t2', -⟩ := d2
    exact slot_ne L1 L2 (fun q => hN.1 (List.mem_map.mpr ⟨g, hg, q.symm⟩)) t1' t2' e1.symm
theorem newobj (hx : p.tables.exec = Jvm.exec) (hZ : Z.Warmed39 s.vm) {own : String} (hown : s.vm.findClass own = some m.cls) (O : Owns n0 h os) {C : String} {idx kk : Nat} (w1 : (Jvm.Cond.classLink own idx C).before a0 Z = true) (w2 : (Jvm.Cond.instantiable C kk).before a0 Z = true) (w3 : (Jvm.Cond.initialized C).before a0 Z = true)
    (fs : List ((String × String × String) × Value)) (hL : ∀ f ∈ fs, Laid Z a0 C f.1.1 f.1.2.1 f.1.2.2 ∧ ∃ ty, parseFieldDescriptor f.1.2.2 = some ty ∧ defaultValue ty = f.2) (hN : (fs.map fun f => f.1.2.1).Nodup) {k' n' : Nat} (hk' : k + 1 = k') (hn' : n + kk = n') (hc : k' ≤ R.cells) (hl : n' ≤ R.slots)
    {pc pc' : Nat} {Ls : Array Slot} {rest : List Value} (hd : decode c.code pc = .ok (.new idx, 3)) (hp : pc + 3 = pc') (K : ∀ a h', Owns n0 h' ((a, ObjC Z C fs) :: os) → Goes p l e R s m args below meth c n0 mc ms Fn h' k' n' (mkF m pc' Ls (.ref a :: rest))) : Goes p l e R s m args below meth c n0 mc ms Fn h k n (mkF m pc Ls rest) := by
  subst hp hk' hn'
  refine Goes.move (Pr := fun h' => Owns n0 h' ((h.size, ObjC Z C fs) :: os)) (fun T locs X N eT => ?_) (fun h' q => K _ _ q)
  obtain ⟨T', h', X', e', E, A, D, ⟨cell, q1, -, -⟩, st⟩ := newO X hx hZ hown w1 w2 w3 eT (g := mkF m pc Ls rest) rfl hd hc hl
  refine ⟨T', locs, X', N, ?_, st⟩
  rw [e']
  refine O.push E ⟨cell, q1, exaC_of q1 A, fun f hf => ?_, nodup_slots hL hN⟩
  obtain ⟨L1, d1⟩ := hL f hf
  obtain ⟨t1, t1', t1''⟩ := d1
  have := D L1 t1'
  rw [t1''] at this
  exact fldC_of q1 this
theorem idx_ok {j : Int32} {i len : Nat} (hj : j.toInt = (i : Int)) (hi : i < len) : ¬ (j < 0 ∨ len ≤ j.toNatClampNeg) ∧ j.toNatClampNeg = i := by
  have h0 : ¬ j < 0 := fun q => by have := Int32.lt_iff_toInt_lt.mp q; rw [hj] at this; have h1 : (0 : Int32).toInt = 0 := by decide
                                   omega
  have h1 : j.toNatClampNeg = i := by have := nat_of h0; omega
  exact ⟨fun q => by rcases q with q | q
                     · exact h0 q
                     · omega, h1⟩
theorem newarr (hx : p.tables.exec = Jvm.exec) (hZ : Z.Warmed39 s.vm) (O : Owns n0 h os) {aty : ArrayType} (w : (Jvm.Cond.arrayClass (newarray.typeOf aty)).before a0 Z = true) {z : Int32} (len : Nat) (hz : z.toInt = (len : Int)) (vs : List Value) (hvs : List.replicate len (defaultValue (newarray.typeOf aty)) = vs) (hfit : fits (newarray.typeOf aty) (defaultValue (newarray.typeOf aty)) = true) {cap : Nat} (hcap : len ≤ cap) (hbg : cap * 8 ≤ 536870912) {k' n' : Nat} (hk' : k + 1 = k') (hn' : n + cap = n') (hc : k' ≤ R.cells) (hl : n' ≤ R.slots)
    {pc pc' : Nat} {Ls : Array Slot} {rest : List Value} (hd : decode c.code pc = .ok (.newarray aty, 2)) (hp : pc + 2 = pc') (K : ∀ a h', Owns n0 h' ((a, ArrC Z (newarray.typeOf aty) vs) :: os) → Goes p l e R s m args below meth c n0 mc ms Fn h' k' n' (mkF m pc' Ls (.ref a :: rest))) : Goes p l e R s m args below meth c n0 mc ms Fn h k n (mkF m pc Ls (.int z :: rest)) := by
  subst hp hk' hn' hvs
  have hz0 : ¬ z < 0 := fun q => by have := Int32.lt_iff_toInt_lt.mp q; rw [hz] at this; have h1 : (0 : Int32).toInt = 0 := by decide
                                    omega
  have hz1 : z.toNatClampNeg = len := by have := nat_of hz0; omega
  refine Goes.move (Pr := fun h' => Owns n0 h' ((h.size, ArrC Z (newarray.typeOf aty) (List.replicate len (defaultValue (newarray.typeOf aty)))) :: os)) (fun T locs X N eT => ?_) (fun h' q => K _ _ q)
  obtain ⟨T', h', cA, X', e', E, A, st⟩ := newP X hx hZ w eT (g := mkF m pc Ls (.int z :: rest)) rfl hd rfl hz0 (cap := cap) (by omega) hbg hc hl
  refine ⟨T', locs, X', N, ?_, st⟩
  rw [e']
  refine O.push E ⟨_, A.1, A.2.1, A.2.2, by simp [newA, hz1], fun v hv => ?_⟩
  rw [(List.mem_replicate.mp hv).2]; exact hfit
theorem arrlen (hx : p.tables.exec = Jvm.exec) (hZ : Z.Warmed39 s.vm) (O : Owns n0 h os) (i : Nat) {ty : FieldType} {vs : List Value} (hi : os[i]? = some (a, ArrC Z ty vs)) (z : Int32) (hz : vs.length.toInt32 = z) {pc pc' : Nat} {Ls : Array Slot} {rest : List Value} (hd : decode c.code pc = .ok (.arraylength, 1)) (hp : pc + 1 = pc')
    (K : Goes p l e R s m args below meth c n0 mc ms Fn h k n (mkF m pc' Ls (.int z :: rest))) : Goes p l e R s m args below meth c n0 mc ms Fn h k n (mkF m pc Ls (.ref a :: rest)) := fun T locs X N eT => by
  subst hp hz
  obtain ⟨-, cell, q1, q2, q3, q4, q5⟩ := O.at hi
  obtain ⟨s₂, o, hs, r⟩ := K T locs X N eT
  refine ⟨s₂, o, ?_, r⟩
  refine X.arraylength hx (by rw [eT]; exact q1) (State.isArrayOf_alike hZ.alike q2) (g := mkF m pc Ls (.ref a :: rest)) rfl rfl hd _ ?_
  have e1 : cell.slots.size = vs.length := by rw [← q4, Array.length_toList]
  rw [e1]; exact hs
theorem iaload (hx : p.tables.exec = Jvm.exec) (hZ : Z.Warmed39 s.vm) (O : Owns n0 h os) (i j : Nat) {vs : List Value} (hi : os[i]? = some (a, ArrC Z .int vs)) {jj : Int32} (hj : jj.toInt = (j : Int)) {v : Value} (hv : vs[j]? = some v) {pc pc' : Nat} {Ls : Array Slot} {rest : List Value} (hd : decode c.code pc = .ok (.iaload, 1)) (hp : pc + 1 = pc')
    (K : Goes p l e R s m args below meth c n0 mc ms Fn h k n (mkF m pc' Ls (v :: rest))) : Goes p l e R s m args below meth c n0 mc ms Fn h k n (mkF m pc Ls (.int jj :: .ref a :: rest)) := fun T locs X N eT => by
  subst hp
  obtain ⟨-, cell, q1, q2, q3, q4, q5⟩ := O.at hi
  have e1 : cell.slots.size = vs.length := by rw [← q4, Array.length_toList]
  obtain ⟨hin, hjn⟩ := idx_ok hj (len := cell.slots.size) (by rw [e1]; exact (List.getElem?_eq_some_iff.mp hv).1)
  obtain ⟨s₂, o, hs, r⟩ := K T locs X N eT
  refine ⟨s₂, o, X.iaload hx (by rw [eT]; exact q1) (State.isArrayOf_alike hZ.alike q2) q3 hin (by rw [hjn, ← Array.getElem?_toList, q4]; exact hv) (g := mkF m pc Ls (.int jj :: .ref a :: rest)) rfl rfl hd _ hs, r⟩
theorem laload (hx : p.tables.exec = Jvm.exec) (hZ : Z.Warmed39 s.vm) (O : Owns n0 h os) (i j : Nat) {vs : List Value} (hi : os[i]? = some (a, ArrC Z .long vs)) {jj : Int32} (hj : jj.toInt = (j : Int)) {v : Value} (hv : vs[j]? = some v) {pc pc' : Nat} {Ls : Array Slot} {rest : List Value} (hd : decode c.code pc = .ok (.laload, 1)) (hp : pc + 1 = pc')
    (K : Goes p l e R s m args below meth c n0 mc ms Fn h k n (mkF m pc' Ls (v :: rest))) : Goes p l e R s m args below meth c n0 mc ms Fn h k n (mkF m pc Ls (.int jj :: .ref a :: rest)) := fun T locs X N eT => by
  subst hp
  obtain ⟨-, cell, q1, q2, q3, q4, q5⟩ := O.at hi
  have e1 : cell.slots.size = vs.length := by rw [← q4, Array.length_toList]
  obtain ⟨hin, hjn⟩ := idx_ok hj (len := cell.slots.size) (by rw [e1]; exact (List.getElem?_eq_some_iff.mp hv).1)
  obtain ⟨s₂, o, hs, r⟩ := K T locs X N eT
  refine ⟨s₂, o, X.laload hx (by rw [eT]; exact q1) (State.isArrayOf_alike hZ.alike q2) q3 hin (by rw [hjn, ← Array.getElem?_toList, q4]; exact hv) (g := mkF m pc Ls (.int jj :: .ref a :: rest)) rfl rfl hd _ hs, r⟩
theorem caload (hx : p.tables.exec = Jvm.exec) (hZ : Z.Warmed39 s.vm) (O : Owns n0 h os) (i j : Nat) {vs : List Value} (hi : os[i]? = some (a, ArrC Z .char vs)) {jj : Int32} (hj : jj.toInt = (j : Int)) {v : Value} (hv : vs[j]? = some v) {pc pc' : Nat} {Ls : Array Slot} {rest : List Value} (hd : decode c.code pc = .ok (.caload, 1)) (hp : pc + 1 = pc')
    (K : Goes p l e R s m args below meth c n0 mc ms Fn h k n (mkF m pc' Ls (v :: rest))) : Goes p l e R s m args below meth c n0 mc ms Fn h k n (mkF m pc Ls (.int jj :: .ref a :: rest)) := fun T locs X N eT => by
  subst hp
  obtain ⟨-, cell, q1, q2, q3, q4, q5⟩ := O.at hi
  have e1 : cell.slots.size = vs.length := by rw [← q4, Array.length_toList]
  obtain ⟨hin, hjn⟩ := idx_ok hj (len := cell.slots.size) (by rw [e1]; exact (List.getElem?_eq_some_iff.mp hv).1)
  obtain ⟨s₂, o, hs, r⟩ := K T locs X N eT
  refine ⟨s₂, o, X.caload hx (by rw [eT]; exact q1) (State.isArrayOf_alike hZ.alike q2) q3 hin (by rw [hjn, ← Array.getElem?_toList, q4]; exact hv) (g := mkF m pc Ls (.int jj :: .ref a :: rest)) rfl rfl hd _ hs, r⟩
theorem iastore (hx : p.tables.exec = Jvm.exec) (hZ : Z.Warmed39 s.vm) (O : Owns n0 h os) (i j : Nat) {vs : List Value} (hi : os[i]? = some (a, ArrC Z .int vs)) {jj : Int32} (hj : jj.toInt = (j : Int)) (hv : j < vs.length) {x : Int32} (os' : List (Addr × (Cell → Prop))) (hos : os.set i (a, ArrC Z .int (vs.set j (.int x))) = os') {pc pc' : Nat} {Ls : Array Slot} {rest : List Value} (hd : decode c.code pc = .ok (.iastore, 1)) (hp : pc + 1 = pc')
    (K : ∀ h', Owns n0 h' os' → Goes p l e R s m args below meth c n0 mc ms Fn h' k n (mkF m pc' Ls rest)) : Goes p l e R s m args below meth c n0 mc ms Fn h k n (mkF m pc Ls (.int x :: .int jj :: .ref a :: rest)) := by
  subst hp hos
  refine Goes.move (Pr := fun h' => Owns n0 h' (os.set i (a, ArrC Z .int (vs.set j (.int x))))) (fun T locs X N eT => ?_) K
  obtain ⟨q0, cell, q1, q2, q3, q4, q5⟩ := O.at hi
  have e1 : cell.slots.size = vs.length := by rw [← q4, Array.length_toList]
  obtain ⟨hin, hjn⟩ := idx_ok hj (len := cell.slots.size) (by rw [e1]; exact hv)
  obtain ⟨T', h', X', e', W, st'⟩ := stI X hx hZ eT ⟨q1, q2, q3⟩ hin (g := mkF m pc Ls (.int x :: .int jj :: .ref a :: rest)) rfl rfl hd
  refine ⟨T', _, X', Fr.snoc X' N q0, ?_, st'⟩
  rw [e']
  rw [hjn] at W
  obtain ⟨w1, w2, w3⟩ := wr_get W
  exact O.upd hi w1 w2 ⟨_, w3 _ q1, q2, q3, by simp [Cell.setSlot, Array.toList_setIfInBounds, q4], fun v hv' => by
    rcases List.mem_or_eq_of_mem_set hv' with z | z
    · exact q5 v z
    · rw [z]; exact rfl⟩
theorem lastore (hx : p.tables.exec = Jvm.exec) (hZ : Z.Warmed39 s.vm) (O : Owns n0 h os) (i j : Nat) {vs : List Value} (hi : os[i]? = some (a, ArrC Z .long vs)) {jj : Int32} (hj : jj.toInt = (j : Int)) (hv : j < vs.length) {x : Int64} (os' : List (Addr × (Cell → Prop))) (hos : os.set i (a, ArrC Z .long (vs.set j (.long x))) = os') {pc pc' : Nat} {Ls : Array Slot} {rest : List Value} (hd : decode c.code pc = .ok (.lastore, 1)) (hp : pc + 1 = pc')
    (K : ∀ h', Owns n0 h' os' → Goes p l e R s m args below meth c n0 mc ms Fn h' k n (mkF m pc' Ls rest)) : Goes p l e R s m args below meth c n0 mc ms Fn h k n (mkF m pc Ls (.long x :: .int jj :: .ref a :: rest)) := by
  subst hp hos
  refine Goes.move (Pr := fun h' => Owns n0 h' (os.set i (a, ArrC Z .long (vs.set j (.long x))))) (fun T locs X N eT => ?_) K
  obtain ⟨q0, cell, q1, q2, q3, q4, q5⟩ := O.at hi
  have e1 : cell.slots.size = vs.length := by rw [← q4, Array.length_toList]
  obtain ⟨hin, hjn⟩ := idx_ok hj (len := cell.slots.size) (by rw [e1]; exact hv)
  obtain ⟨T', h', X', e', W, st'⟩ := stJ X hx hZ eT ⟨q1, q2, q3⟩ hin (g := mkF m pc Ls (.long x :: .int jj :: .ref a :: rest)) rfl rfl hd
  refine ⟨T', _, X', Fr.snoc X' N q0, ?_, st'⟩
  rw [e']
  rw [hjn] at W
  obtain ⟨w1, w2, w3⟩ := wr_get W
  exact O.upd hi w1 w2 ⟨_, w3 _ q1, q2, q3, by simp [Cell.setSlot, Array.toList_setIfInBounds, q4], fun v hv' => by
    rcases List.mem_or_eq_of_mem_set hv' with z | z
    · exact q5 v z
    · rw [z]; exact rfl⟩
theorem castore (hx : p.tables.exec = Jvm.exec) (hZ : Z.Warmed39 s.vm) (O : Owns n0 h os) (i j : Nat) {vs : List Value} (hi : os[i]? = some (a, ArrC Z .char vs)) {jj : Int32} (hj : jj.toInt = (j : Int)) (hv : j < vs.length) {x : Int32} (os' : List (Addr × (Cell → Prop))) (hos : os.set i (a, ArrC Z .char (vs.set j (.int (nar .char x)))) = os') {pc pc' : Nat} {Ls : Array Slot} {rest : List Value} (hd : decode c.code pc = .ok (.castore, 1)) (hp : pc + 1 = pc')
    (K : ∀ h', Owns n0 h' os' → Goes p l e R s m args below meth c n0 mc ms Fn h' k n (mkF m pc' Ls rest)) : Goes p l e R s m args below meth c n0 mc ms Fn h k n (mkF m pc Ls (.int x :: .int jj :: .ref a :: rest)) := by
  subst hp hos
  refine Goes.move (Pr := fun h' => Owns n0 h' (os.set i (a, ArrC Z .char (vs.set j (.int (nar .char x)))))) (fun T locs X N eT => ?_) K
  obtain ⟨q0, cell, q1, q2, q3, q4, q5⟩ := O.at hi
  have e1 : cell.slots.size = vs.length := by rw [← q4, Array.length_toList]
  obtain ⟨hin, hjn⟩ := idx_ok hj (len := cell.slots.size) (by rw [e1]; exact hv)
  obtain ⟨T', h', X', e', W, st'⟩ := stC X hx hZ eT ⟨q1, q2, q3⟩ hin (g := mkF m pc Ls (.int x :: .int jj :: .ref a :: rest)) rfl rfl hd
  refine ⟨T', _, X', Fr.snoc X' N q0, ?_, st'⟩
  rw [e']
  rw [hjn] at W
  obtain ⟨w1, w2, w3⟩ := wr_get W
  exact O.upd hi w1 w2 ⟨_, w3 _ q1, q2, q3, by simp [Cell.setSlot, Array.toList_setIfInBounds, q4], fun v hv' => by
    rcases List.mem_or_eq_of_mem_set hv' with z | z
    · exact q5 v z
    · rw [z]; exact fits_nar_char x⟩
theorem initobj (hx : p.tables.exec = Jvm.exec) (hZ : Z.Warmed39 s.vm) {own : String} (hown : s.vm.findClass own = some m.cls) {idx : Nat} (w1 : (Jvm.Cond.methodLink own idx Lib.objectInit).before a0 Z = true) (w2 : (Jvm.Cond.instanceMethod Lib.objectInit).before a0 Z = true) (w3 : (Jvm.Cond.code Lib.objectInit ⟨#[0xb1]⟩ 1 none).before a0 Z = true)
    {pc pc' : Nat} {Ls : Array Slot} {rest : List Value} (hml : Ls.size = c.maxLocals) {W : Nat} (hW : (rest.map fun v => v.category).sum ≤ W) (hf : 1 ≤ R.frames) (hl : W + 12 ≤ R.locals) (hd : decode c.code pc = .ok (.invokespecial idx, 3)) (hp : pc + 3 = pc') (K : Goes p l e R s m args below meth c n0 mc ms Fn h k n (mkF m pc' Ls rest)) : Goes p l e R s m args below meth c n0 mc ms Fn h k n (mkF m pc Ls (.ref a :: rest)) := by
  subst hp
  refine Goes.move (Pr := fun h' => h' = h) (k' := k) (n' := n) (g' := mkF m (pc + 3) Ls rest) (fun T locs X N eT => ?_) (fun h' q => by rw [q]; exact K)
  obtain ⟨T', X', e', st⟩ := initO X hx hZ hown w1 w2 w3 eT (g := mkF m pc Ls (.ref a :: rest)) rfl hml rfl hd hf (W := W) (by show 2 * 0 + _ ≤ _; omega) hl
  exact ⟨T', locs, X', N, e', st⟩
/-- a constructor by its contract -/
theorem callI (hx : p.tables.exec = Jvm.exec) (hZ : Z.Warmed39 s.vm) {own : String} (hown : s.vm.findClass own = some m.cls) {i : Nat} {y : MethodName} (hyn : y.name = "<init>") {bytes : ByteArray} {maxL : Nat} {rm : Room} {F : Option Value → Heap → Prop} {argsL rest : List Value}
    (w1 : (Jvm.Cond.methodLink own i y).before a0 Z = true) (w2 : (Jvm.Cond.instanceMethod y).before a0 Z = true) (w3 : (Jvm.Cond.initialized y.cls).before a0 Z = true) (w4 : (Jvm.Cond.code y bytes maxL none).before a0 Z = true) (hy : y.cls ≠ "java/lang/invoke/MethodHandle" ∧ y.cls ≠ "java/lang/invoke/VarHandle")
    {sg : ClassFile.MethodDescriptor} (hsg : parseMethodDescriptor y.desc = some sg) (hlen : argsL.length = sg.parameters.length) {pc pc' : Nat} {Ls : Array Slot} {W : Nat} (hW : (rest.map fun v => v.category).sum ≤ W) (hf : rm.frames + 1 ≤ R.frames) (hl : W + (maxL + 11) + rm.locals ≤ R.locals) (hcl : k + rm.cells ≤ R.cells) (hsl : n + rm.slots ≤ R.slots)
    {k' n' : Nat} (hk' : k + rm.cells = k') (hn' : n + rm.slots = n') (hml : Ls.size = c.maxLocals) (st : List Value) (hst : st = argsL.reverse ++ .ref a :: rest) (hd : decode c.code pc = .ok (.invokespecial i, 3)) (hp : pc + 3 = pc') (D : Does l y bytes maxL none [] rm Z (.ref a :: argsL).toArray h n0 F)
    (K : ∀ v h', F v h' → Goes p l e R s m args below meth c n0 mc ms Fn h' k' n' (mkF m pc' Ls (v.toList ++ rest))) : Goes p l e R s m args below meth c n0 mc ms Fn h k n (mkF m pc Ls st) := fun T locs X N eT => by
  subst hp hst hk' hn'
  obtain ⟨v, _, ⟨T', L', k', n'⟩, -, X', ⟨Lc, hQ, l1, y1, z1⟩, st⟩ := X.specialBack hx (y := y) hyn hown (mvT hZ w1) (mvT hZ w2) (mvT hZ w4) hy (backOf (W := W) (Q := fun v h' L => F v h' ∧ Fr n0 L) D hZ w4 w3 hf hl) (g := mkF m pc Ls (argsL.reverse ++ .ref a :: rest)) rfl hml (Steps.refl _) (a := a) (argsL := argsL) (rest := rest) (lenOf hsg hlen) rfl (by show 2 * 0 + _ ≤ _; omega) hd (fun _ _ => ⟨rfl, eT, hcl, hsl⟩)
  dsimp only [Pt.U, Pt.locs, Pt.cells, Pt.slots] at X' l1 y1 z1 st hQ
  subst l1 y1 z1
  obtain ⟨s₂, o, hs, r⟩ := K v T'.heap hQ.1 T' _ X' (N.app hQ.2) rfl
  exact ⟨s₂, o, st.trans hs, r⟩
/-- an instance method by its contract: the receiver is just of the class C -/
theorem callV (hx : p.tables.exec = Jvm.exec) (hZ : Z.Warmed39 s.vm) {own C : String} (hown : s.vm.findClass own = some m.cls) {i : Nat} {y : MethodName} {bytes : ByteArray} {maxL : Nat} {ret : Option FieldType} {rm : Room} {F : Option Value → Heap → Prop} {argsL rest : List Value} (E : Exa Z h a C)
    (w1 : (Jvm.Cond.methodLink own i y).before a0 Z = true) (w2 : (Jvm.Cond.declares y).before a0 Z = true) (w5 : (Jvm.Cond.selects C y y).before a0 Z = true) (w6 : (Jvm.Cond.instanceMethod y).before a0 Z = true) (w3 : (Jvm.Cond.initialized y.cls).before a0 Z = true) (w4 : (Jvm.Cond.code y bytes maxL ret).before a0 Z = true) (hy : y.cls ≠ "java/lang/invoke/MethodHandle" ∧ y.cls ≠ "java/lang/invoke/VarHandle")
    {sg : ClassFile.MethodDescriptor} (hsg : parseMethodDescriptor y.desc = some sg) (hlen : argsL.length = sg.parameters.length) {pc pc' : Nat} {Ls : Array Slot} {W : Nat} (hW : (rest.map fun v => v.category).sum ≤ W) (hf : rm.frames + 1 ≤ R.frames) (hl : W + (maxL + 11) + rm.locals ≤ R.locals) (hcl : k + rm.cells ≤ R.cells) (hsl : n + rm.slots ≤ R.slots)
    {k' n' : Nat} (hk' : k + rm.cells = k') (hn' : n + rm.slots = n') (hml : Ls.size = c.maxLocals) (st : List Value) (hst : st = argsL.reverse ++ .ref a :: rest) (hd : decode c.code pc = .ok (.invokevirtual i, 3)) (hp : pc + 3 = pc') (D : Does l y bytes maxL ret [] rm Z (.ref a :: argsL).toArray h n0 F)
    (K : ∀ v h', F v h' → Goes p l e R s m args below meth c n0 mc ms Fn h' k' n' (mkF m pc' Ls (v.toList ++ rest))) : Goes p l e R s m args below meth c n0 mc ms Fn h k n (mkF m pc Ls st) := fun T locs X N eT => by
  subst hp hst hk' hn'
  obtain ⟨cq, kq, qa, qb, qc⟩ := isOf hZ eT E
  obtain ⟨v, _, ⟨T', L', k', n'⟩, -, X', ⟨Lc, hQ, l1, y1, z1⟩, st⟩ := X.virtualBack hx (y := y) (z := y) hown (mvT hZ w1) (mvT hZ w2) (notFace_of_selects (args := #[]) (mvT hZ w5)) (mvT hZ w5) (mvT hZ w6) hy (backOf (W := W) (Q := fun v h' L => F v h' ∧ Fr n0 L) D hZ w4 w3 hf hl) qa qc (g := mkF m pc Ls (argsL.reverse ++ .ref a :: rest)) rfl hml (Steps.refl _) (argsL := argsL) (rest := rest) (lenOf hsg hlen) rfl (by show 2 * 0 + _ ≤ _; omega) hd (fun _ _ => ⟨rfl, eT, hcl, hsl⟩)
  dsimp only [Pt.U, Pt.locs, Pt.cells, Pt.slots] at X' l1 y1 z1 st hQ
  subst l1 y1 z1
  obtain ⟨s₂, o, hs, r⟩ := K v T'.heap hQ.1 T' _ X' (N.app hQ.2) rfl
  exact ⟨s₂, o, st.trans hs, r⟩
/-- a private method (by invokevirtual) by its contract -/
theorem callP (hx : p.tables.exec = Jvm.exec) (hZ : Z.Warmed39 s.vm) {own C : String} (hown : s.vm.findClass own = some m.cls) {i : Nat} {y : MethodName} {bytes : ByteArray} {maxL : Nat} {ret : Option FieldType} {rm : Room} {F : Option Value → Heap → Prop} {argsL rest : List Value} (E : Exa Z h a C)
    (w1 : (Jvm.Cond.methodLink own i y).before a0 Z = true) (w2 : (Jvm.Cond.instanceMethod y).before a0 Z = true) {ki : Nat} (wi : (Jvm.Cond.instantiable y.cls ki).before a0 Z = true) (w6 : (Jvm.Cond.privateMethod y).before a0 Z = true) (w3 : (Jvm.Cond.initialized y.cls).before a0 Z = true) (w4 : (Jvm.Cond.code y bytes maxL ret).before a0 Z = true) (hy : y.cls ≠ "java/lang/invoke/MethodHandle" ∧ y.cls ≠ "java/lang/invoke/VarHandle")
    {sg : ClassFile.MethodDescriptor} (hsg : parseMethodDescriptor y.desc = some sg) (hlen : argsL.length = sg.parameters.length) {pc pc' : Nat} {Ls : Array Slot} {W : Nat} (hW : (rest.map fun v => v.category).sum ≤ W) (hf : rm.frames + 1 ≤ R.frames) (hl : W + (maxL + 11) + rm.locals ≤ R.locals) (hcl : k + rm.cells ≤ R.cells) (hsl : n + rm.slots ≤ R.slots)
    {k' n' : Nat} (hk' : k + rm.cells = k') (hn' : n + rm.slots = n') (hml : Ls.size = c.maxLocals) (st : List Value) (hst : st = argsL.reverse ++ .ref a :: rest) (hd : decode c.code pc = .ok (.invokevirtual i, 3)) (hp : pc + 3 = pc') (D : Does l y bytes maxL ret [] rm Z (.ref a :: argsL).toArray h n0 F)
    (K : ∀ v h', F v h' → Goes p l e R s m args below meth c n0 mc ms Fn h' k' n' (mkF m pc' Ls (v.toList ++ rest))) : Goes p l e R s m args below meth c n0 mc ms Fn h k n (mkF m pc Ls st) := fun T locs X N eT => by
  subst hp hst hk' hn'
  obtain ⟨cq, qa, qb⟩ := E.cell
  have hpriv : s.PrivateAt y := Cond.privateMethod_at (mvP hZ w6 (args := #[]))
  obtain ⟨_, _, i1, i2, -, i3, -, -⟩ := Cond.instantiable_spec (mvT hZ wi : (Jvm.Cond.instantiable y.cls ki).before args s = true)
  have hsel : (Jvm.Cond.selects y.cls y y).before args s = true := selects_self_of_private i1 i2 (Bool.or_eq_false_iff.mp i3).1 hpriv (mvT hZ w2) hy
  obtain ⟨v, _, ⟨T', L', k', n'⟩, -, X', ⟨Lc, hQ, l1, y1, z1⟩, st⟩ := X.privateBack hx (y := y) hown (mvT hZ w1) (mvT hZ w2) hsel hpriv (mvT hZ w4) hy (backOf (W := W) (Q := fun v h' L => F v h' ∧ Fr n0 L) D hZ w4 w3 hf hl) (g := mkF m pc Ls (argsL.reverse ++ .ref a :: rest)) rfl hml (Steps.refl _) (a := a) (by rw [eT]; exact qa) qb (argsL := argsL) (rest := rest) (lenOf hsg hlen) rfl (by show 2 * 0 + _ ≤ _; omega) hd (fun _ _ => ⟨rfl, eT, hcl, hsl⟩)
  dsimp only [Pt.U, Pt.locs, Pt.cells, Pt.slots] at X' l1 y1 z1 st hQ
  subst l1 y1 z1
  obtain ⟨s₂, o, hs, r⟩ := K v T'.heap hQ.1 T' _ X' (N.app hQ.2) rfl
  exact ⟨s₂, o, st.trans hs, r⟩
end EngH
end Own
namespace Own
section EngX
variable {p : Program} {l : Launch} {e : Env} {R : Room} {s : State} {m : MethodId} {args : Array Value} {below : List Frame} {meth : Method} {c : Code} {n0 mc ms : Nat} {Fn : Option Value → Heap → Prop} {h h' : Heap} {k n : Nat} {Z : State} {a0 : Array Value} {os : List (Addr × (Cell → Prop))} {a : Addr}
theorem newarrR (hx : p.tables.exec = Jvm.exec) (hZ : Z.Warmed39 s.vm) {own : String} (hown : s.vm.findClass own = some m.cls) (O : Owns n0 h os) {C : String} {idx : Nat} (w1 : (Jvm.Cond.classLink own idx C).before a0 Z = true) (w2 : (Jvm.Cond.arrayOver (.object C)).before a0 Z = true) {z : Int32} (len : Nat) (hz : z.toInt = (len : Int)) (vs : List Value) (hvs : List.replicate len Value.null = vs) {cap : Nat} (hcap : len ≤ cap) (hbg : cap * 8 ≤ 536870912) {k' n' : Nat} (hk' : k + 1 = k') (hn' : n + cap = n') (hc : k' ≤ R.cells) (hl : n' ≤ R.slots)
    {pc pc' : Nat} {Ls : Array Slot} {rest : List Value} (hd : decode c.code pc = .ok (.anewarray idx, 3)) (hp : pc + 3 = pc') (K : ∀ a h', Owns n0 h' ((a, ArrC Z (.object C) vs) :: os) → Goes p l e R s m args below meth c n0 mc ms Fn h' k' n' (mkF m pc' Ls (.ref a :: rest))) : Goes p l e R s m args below meth c n0 mc ms Fn h k n (mkF m pc Ls (.int z :: rest)) := by
  subst hp hk' hn' hvs
  have hz0 : ¬ z < 0 := fun q => by have := Int32.lt_iff_toInt_lt.mp q; rw [hz] at this; have h1 : (0 : Int32).toInt = 0 := by decide
                                    omega
  have hz1 : z.toNatClampNeg = len := by have := nat_of hz0; omega
  refine Goes.move (Pr := fun h' => Owns n0 h' ((h.size, ArrC Z (.object C) (List.replicate len Value.null)) :: os)) (fun T locs X N eT => ?_) (fun h' q => K _ _ q)
  obtain ⟨T', h', cA, X', e', E, A, -, st⟩ := newR X hx hZ hown w1 w2 eT (g := mkF m pc Ls (.int z :: rest)) rfl hd rfl hz0 (cap := cap) (by omega) hbg hc hl
  refine ⟨T', locs, X', N, ?_, st⟩
  rw [e']
  refine O.push E ⟨_, A.1, A.2.1, A.2.2, by simp [newA, hz1, defaultValue], fun v hv => ?_⟩
  rw [(List.mem_replicate.mp hv).2]; rfl
theorem aastoreN (hx : p.tables.exec = Jvm.exec) (hZ : Z.Warmed39 s.vm) (O : Owns n0 h os) (i j : Nat) {C : String} {vs : List Value} (hi : os[i]? = some (a, ArrC Z (.object C) vs)) {jj : Int32} (hj : jj.toInt = (j : Int)) (hv : j < vs.length) (os' : List (Addr × (Cell → Prop))) (hos : os.set i (a, ArrC Z (.object C) (vs.set j .null)) = os') {pc pc' : Nat} {Ls : Array Slot} {rest : List Value} (hd : decode c.code pc = .ok (.aastore, 1)) (hp : pc + 1 = pc')
    (K : ∀ h', Owns n0 h' os' → Goes p l e R s m args below meth c n0 mc ms Fn h' k n (mkF m pc' Ls rest)) : Goes p l e R s m args below meth c n0 mc ms Fn h k n (mkF m pc Ls (.null :: .int jj :: .ref a :: rest)) := by
  subst hp hos
  refine Goes.move (Pr := fun h' => Owns n0 h' (os.set i (a, ArrC Z (.object C) (vs.set j .null)))) (fun T locs X N eT => ?_) K
  obtain ⟨q0, cell, q1, q2, q3, q4, q5⟩ := O.at hi
  have e1 : cell.slots.size = vs.length := by rw [← q4, Array.length_toList]
  obtain ⟨hin, hjn⟩ := idx_ok hj (len := cell.slots.size) (by rw [e1]; exact hv)
  obtain ⟨T', h', X', e', W, st'⟩ := stR X hx hZ eT ⟨q1, q2, q3⟩ hin rfl (Or.inl rfl) (g := mkF m pc Ls (.null :: .int jj :: .ref a :: rest)) rfl rfl hd
  refine ⟨T', _, X', Fr.snoc X' N q0, ?_, st'⟩
  rw [e']
  rw [hjn] at W
  obtain ⟨w1, w2, w3⟩ := wr_get W
  exact O.upd hi w1 w2 ⟨_, w3 _ q1, q2, q3, by simp [Cell.setSlot, Array.toList_setIfInBounds, q4], fun v hv' => by
    rcases List.mem_or_eq_of_mem_set hv' with z | z
    · exact q5 v z
    · rw [z]; rfl⟩
theorem tn {j : Int32} {i : Nat} (hj : j.toInt = (i : Int)) : ¬ j < 0 ∧ j.toNatClampNeg = i := by
  have h0 : ¬ j < 0 := fun q => by have := Int32.lt_iff_toInt_lt.mp q; rw [hj] at this; have h1 : (0 : Int32).toInt = 0 := by decide
                                   omega
  exact ⟨h0, by have := nat_of h0; omega⟩
theorem arv_of {ty : FieldType} {vs : List Value} {cell : Cell} {dv : Value} (q1 : h[a]? = some cell) (q : ArrC Z ty vs cell) (hl : vs.length < 2147483648) : Arv Z h a cell.cls ty vs.length.toInt32 vs dv := by
  obtain ⟨q2, q3, q4, q5⟩ := q
  have e1 : cell.slots.size = vs.length := by rw [← q4, Array.length_toList]
  have e2 : vs.length.toInt32.toInt = (vs.length : Int) := len_toInt (by omega)
  obtain ⟨n0, e3⟩ := tn e2
  refine ⟨cell, ⟨q1, q2, q3⟩, rfl, by omega, n0, fun i hi => ?_, fun i hi => ?_⟩
  · rw [← Array.getElem?_toList, q4, List.getD_eq_getElem?_getD, List.getElem?_eq_getElem (by omega)]; rfl
  · rw [List.getD_eq_getElem?_getD, List.getElem?_eq_getElem (by omega)]; exact q5 _ (List.getElem_mem _)
theorem arrC_of {ty : FieldType} {vs : List Value} {dv : Value} {kc : ClassId} {z : Int32} (F : Arv Z h a kc ty z vs dv) (hl : vs.length = z.toNatClampNeg) : ∃ cell, h[a]? = some cell ∧ ArrC Z ty vs cell := by
  obtain ⟨cell, A, -, S, -, H, Gf⟩ := F
  refine ⟨cell, A.1, A.2.1, A.2.2, ?_, fun v hv => ?_⟩
  · refine List.ext_getElem? fun i => ?_
    by_cases hi : i < cell.slots.size
    · rw [Array.getElem?_toList, H i hi, List.getD_eq_getElem?_getD, List.getElem?_eq_getElem (by omega)]; rfl
    · rw [Array.getElem?_toList, Array.getElem?_eq_none (by omega), List.getElem?_eq_none (by omega)]
  · obtain ⟨i, hi⟩ := List.getElem?_of_mem hv
    have hlt := (List.getElem?_eq_some_iff.mp hi).1
    have := Gf i (by omega)
    rw [List.getD_eq_getElem?_getD, hi] at this
    exact this
/-- System.arraycopy from the i-th owned array to the j-th, both of one primitive kind -/
theorem acopy (hx : p.tables.exec = Jvm.exec) (hZ : Z.Warmed39 s.vm) {own : String} (hown : s.vm.findClass own = some m.cls) {idx : Nat} (w1 : (Jvm.Cond.methodLink own idx Jvm.Stand.acN).before a0 Z = true) (w2 : (Jvm.Cond.native Jvm.Stand.acN).before a0 Z = true) (w3 : (Jvm.Cond.static Jvm.Stand.acN).before a0 Z = true) (w4 : (Jvm.Cond.initialized "java/lang/System").before a0 Z = true)
    (O : Owns n0 h os) (i j : Nat) {b : Addr} {ty : FieldType} {vs vd : List Value} (hi : os[i]? = some (a, ArrC Z ty vs)) (hj : os[j]? = some (b, ArrC Z ty vd)) (hty : refKind ty = false) {sp dp nn : Int32} (spn dpn nnn : Nat) (h1 : sp.toInt = (spn : Int)) (h2 : dp.toInt = (dpn : Int)) (h3 : nn.toInt = (nnn : Int)) (h4 : spn + nnn ≤ vs.length) (h5 : dpn + nnn ≤ vd.length) (hb1 : vs.length < 2147483648) (hb2 : vd.length < 2147483648)
    (res : List Value) (hres : vd.take dpn ++ ((List.range nnn).map fun t => vs.getD (spn + t) .null) ++ vd.drop (dpn + nnn) = res) (os' : List (Addr × (Cell → Prop))) (hos : os.set j (b, ArrC Z ty res) = os')
    {pc pc' : Nat} {Ls : Array Slot} {rest : List Value} (hml : Ls.size = c.maxLocals) {W : Nat} (hW : (rest.map fun v => v.category).sum ≤ W) (hf : 1 ≤ R.frames) (hlo : W + (nativeFrameWords "java/lang/System" "arraycopy" 5 + 11) ≤ R.locals) (hd : decode c.code pc = .ok (.invokestatic idx, 3)) (hp : pc + 3 = pc')
    (K : ∀ h', Owns n0 h' os' → Goes p l e R s m args below meth c n0 mc ms Fn h' k n (mkF m pc' Ls rest)) : Goes p l e R s m args below meth c n0 mc ms Fn h k n (mkF m pc Ls (.int nn :: .int dp :: .ref b :: .int sp :: .ref a :: rest)) := by
  subst hp hos hres
  obtain ⟨-, ca, qa1, qa2⟩ := O.at hi
  obtain ⟨gb, cb, qb1, qb2⟩ := O.at hj
  have A : Arv Z h a ca.cls ty vs.length.toInt32 vs .null := arv_of qa1 qa2 hb1
  have B : Arv Z h b cb.cls ty vd.length.toInt32 vd .null := arv_of qb1 qb2 hb2
  obtain ⟨t1, u1⟩ := tn h1
  obtain ⟨t2, u2⟩ := tn h2
  obtain ⟨t3, u3⟩ := tn h3
  obtain ⟨-, va⟩ := tn (show vs.length.toInt32.toInt = (vs.length : Int) from len_toInt (by omega))
  obtain ⟨-, vb⟩ := tn (show vd.length.toInt32.toInt = (vd.length : Int) from len_toInt (by omega))
  refine Goes.move (Pr := fun h' => Owns n0 h' (os.set j (b, ArrC Z ty (vd.take dpn ++ ((List.range nnn).map fun t => vs.getD (spn + t) .null) ++ vd.drop (dpn + nnn))))) (fun T locs X N eT => ?_) K
  obtain ⟨T', h', L', X', e', N', Kp, F, st⟩ := cpA X hx hZ hown w1 w2 w3 w4 eT A B (Or.inl ⟨rfl, hty⟩) t1 t2 t3 (by rw [u1, u3, va]; exact h4) (by rw [u2, u3, vb]; exact h5) rfl (by rw [u2, u3]; exact h5) N gb (g := mkF m pc Ls (.int nn :: .int dp :: .ref b :: .int sp :: .ref a :: rest)) rfl hml rfl hd hf (W := W) (by show 2 * 0 + _ ≤ _; omega) hlo
  refine ⟨T', L', X', N', ?_, st⟩
  rw [e']
  rw [u1, u2, u3] at F
  refine O.upd hj Kp.1 (fun x cell hc hne => Kp.2.1 x cell hc (fun q => hne (List.mem_singleton.mp q))) (arrC_of F ?_)
  rw [vb]
  simp only [List.length_append, List.length_take, List.length_map, List.length_range, List.length_drop]
  omega
end EngX
end Own
abbrev gI (x : Nat) : Value := .int x.toInt32
def fMinI (x y : Int32) : Int32 := if y < x then y else x
def fD (f i : Int32) : Int32 := ((f.toUInt32 >>> (i &&& 31).toUInt32).toInt32 ^^^ (f.toUInt32 >>> ((i - (1 : Int32)) &&& 31).toUInt32).toInt32) &&& (1 : Int32)
def fRef (f ee : Int32) : Int32 :=
  let r1 := if ee < (1 : Int32) then (0 : Int32) else (0 : Int32) + fD f 1
  let r2 := if ee < (2 : Int32) then r1 else r1 + fD f 2
  let r3 := if ee < (3 : Int32) then r2 else r2 + fD f 3
  if ee < (4 : Int32) then r3 else r3 + fD f 4
/-! the stretches, in plain numbers -/
def pre (cs : List Nat) (k : Nat) : Nat := (cs.take k).sum
def dif (a b : Int32) : Nat := if a = b then 0 else 1
def chg (d1 d2 d3 d4 ee : Nat) : Nat := (if 1 ≤ ee then d1 else 0) + (if 2 ≤ ee then d2 else 0) + (if 3 ≤ ee then d3 else 0) + (if 4 ≤ ee then d4 else 0)
def goodB (cs : List Nat) (d1 d2 d3 d4 : Nat) : Bool := cs.length == 8 && decide (5 ≤ pre cs 8) && decide (pre cs 8 < 1000) && (List.range 5).all fun ee => decide (pre cs (chg d1 d2 d3 d4 ee) ≤ ee) && decide (ee < pre cs (chg d1 d2 d3 d4 ee + 1))
theorem pre_succ (cs : List Nat) (k : Nat) : pre cs (k + 1) = pre cs k + cs.getD k 0 := by
  unfold pre
  by_cases h : k < cs.length
  · rw [List.take_add_one, List.sum_append, List.getElem?_eq_getElem h, List.getD_eq_getElem?_getD, List.getElem?_eq_getElem h]; simp
  · rw [List.take_of_length_le (by omega), List.take_of_length_le (by omega), List.getD_eq_getElem?_getD, List.getElem?_eq_none (by omega)]; simp
theorem pre_mono (cs : List Nat) : ∀ d k, pre cs k ≤ pre cs (k + d)
  | 0, k => Nat.le_refl _
  | d + 1, k => Nat.le_trans (pre_mono cs d k) (by rw [← Nat.add_assoc, pre_succ]; omega)
theorem pre_le (cs : List Nat) {j k : Nat} (h : j ≤ k) : pre cs j ≤ pre cs k := by
  obtain ⟨d, rfl⟩ : ∃ d, k = j + d := ⟨k - j, by omega⟩
  exact pre_mono cs d j
theorem pre_uniq {cs : List Nat} {s t ee : Nat} (h1 : pre cs s ≤ ee) (h2 : ee < pre cs (s + 1)) (h3 : pre cs t ≤ ee) (h4 : ee < pre cs (t + 1)) : s = t := by
  by_cases q : s < t
  · have := pre_le cs (show s + 1 ≤ t by omega); omega
  · by_cases q' : t < s
    · have := pre_le cs (show t + 1 ≤ s by omega); omega
    · omega
theorem good_len {cs : List Nat} {d1 d2 d3 d4 : Nat} (h : goodB cs d1 d2 d3 d4 = true) : cs.length = 8 ∧ 5 ≤ pre cs 8 ∧ pre cs 8 < 1000 := by
  unfold goodB at h
  simp only [Bool.and_eq_true, beq_iff_eq, decide_eq_true_eq] at h
  exact ⟨h.1.1.1, h.1.1.2, h.1.2⟩
theorem good_at {cs : List Nat} {d1 d2 d3 d4 ee s : Nat} (h : goodB cs d1 d2 d3 d4 = true) (he : ee < 5) (h1 : pre cs s ≤ ee) (h2 : ee < pre cs (s + 1)) : s = chg d1 d2 d3 d4 ee := by
  unfold goodB at h
  simp only [Bool.and_eq_true, beq_iff_eq, decide_eq_true_eq, List.all_eq_true, List.mem_range] at h
  obtain ⟨h3, h4⟩ := h.2 ee he
  exact pre_uniq h1 h2 h3 h4
theorem fs_lt {cs : List Nat} {s ee : Nat} (hl : cs.length = 8) (h1 : pre cs s ≤ ee) (h2 : ee < pre cs 8) : s < 8 := by
  by_cases q : s < 8
  · exact q
  · have := pre_le cs (show 8 ≤ s by omega); omega
theorem own_x1 (x y : Int32) : (x ^^^ y) &&& (1 : Int32) = if (x &&& (1 : Int32)) = (y &&& (1 : Int32)) then (0 : Int32) else (1 : Int32) := by
  have h : ∀ a b : BitVec 32, ((a ^^^ b) &&& 1#32 = 0#32 ∧ a &&& 1#32 = b &&& 1#32) ∨ ((a ^^^ b) &&& 1#32 = 1#32 ∧ ¬ a &&& 1#32 = b &&& 1#32) := by
    intro a b
    rw [BitVec.and_one_eq_setWidth_ofBool_getLsbD, BitVec.and_one_eq_setWidth_ofBool_getLsbD, BitVec.and_one_eq_setWidth_ofBool_getLsbD, BitVec.getLsbD_xor]
    cases a.getLsbD 0 <;> cases b.getLsbD 0 <;> decide
  rcases h x.toBitVec y.toBitVec with ⟨q1, q2⟩ | ⟨q1, q2⟩
  · have e : x &&& (1 : Int32) = y &&& (1 : Int32) := Int32.toBitVec_inj.mp q2
    rw [if_pos e]; exact Int32.toBitVec_inj.mp q1
  · have e : ¬ x &&& (1 : Int32) = y &&& (1 : Int32) := fun z => q2 (congrArg Int32.toBitVec z : (x &&& (1 : Int32)).toBitVec = (y &&& (1 : Int32)).toBitVec)
    rw [if_neg e]; exact Int32.toBitVec_inj.mp q1
theorem own_dif {x y F G : Int32} (hF : F = (1 : Int32) + (x &&& (1 : Int32))) (hG : G = (1 : Int32) + (y &&& (1 : Int32))) : (y ^^^ x) &&& (1 : Int32) = (dif F G).toInt32 := by
  rw [own_x1]
  unfold dif
  by_cases q : (y &&& (1 : Int32)) = (x &&& (1 : Int32))
  · rw [if_pos q, if_pos (by rw [hF, hG, q])]; rfl
  · rw [if_neg q, if_neg (fun z => q (by rw [hF, hG] at z; exact ((Int32.add_right_inj _).mp z).symm))]; rfl
theorem own_sh0 (f : Int32) : (f.toUInt32 >>> (((1 : Int32) - (1 : Int32)) &&& 31).toUInt32).toInt32 = f := by
  have : f.toUInt32 >>> (((1 : Int32) - (1 : Int32)) &&& 31).toUInt32 = f.toUInt32 := by
    rw [show (((1 : Int32) - (1 : Int32)) &&& 31).toUInt32 = 0 from by decide]
    simp
  rw [this]
  exact Int32.toInt32_toUInt32 f
theorem own_d {f F0 F1 F2 F3 F4 : Int32} (h0 : F0 = ((1 : Int32) + (f &&& (1 : Int32)))) (h1 : F1 = ((1 : Int32) + ((f.toUInt32 >>> ((1 : Int32) &&& 31).toUInt32).toInt32 &&& (1 : Int32)))) (h2 : F2 = ((1 : Int32) + ((f.toUInt32 >>> ((2 : Int32) &&& 31).toUInt32).toInt32 &&& (1 : Int32)))) (h3 : F3 = ((1 : Int32) + ((f.toUInt32 >>> ((3 : Int32) &&& 31).toUInt32).toInt32 &&& (1 : Int32)))) (h4 : F4 = ((1 : Int32) + ((f.toUInt32 >>> ((4 : Int32) &&& 31).toUInt32).toInt32 &&& (1 : Int32)))) :
    fD f 1 = (dif F0 F1).toInt32 ∧ fD f 2 = (dif F1 F2).toInt32 ∧ fD f 3 = (dif F2 F3).toInt32 ∧ fD f 4 = (dif F3 F4).toInt32 := by
  unfold fD
  rw [own_sh0, show (2 : Int32) - (1 : Int32) = 1 from by decide, show (3 : Int32) - (1 : Int32) = 2 from by decide, show (4 : Int32) - (1 : Int32) = 3 from by decide]
  exact ⟨own_dif h0 h1, own_dif h1 h2, own_dif h2 h3, own_dif h3 h4⟩
theorem dif_le (a b : Int32) : dif a b ≤ 1 := by unfold dif; split <;> omega
theorem own_add2 (a b : Nat) : a.toInt32 + b.toInt32 = (a + b).toInt32 := (Int32.ofNat_add a b).symm
theorem own_ref {f F0 F1 F2 F3 F4 ee : Int32} {en : Nat} (h0 : F0 = ((1 : Int32) + (f &&& (1 : Int32)))) (h1 : F1 = ((1 : Int32) + ((f.toUInt32 >>> ((1 : Int32) &&& 31).toUInt32).toInt32 &&& (1 : Int32)))) (h2 : F2 = ((1 : Int32) + ((f.toUInt32 >>> ((2 : Int32) &&& 31).toUInt32).toInt32 &&& (1 : Int32)))) (h3 : F3 = ((1 : Int32) + ((f.toUInt32 >>> ((3 : Int32) &&& 31).toUInt32).toInt32 &&& (1 : Int32)))) (h4 : F4 = ((1 : Int32) + ((f.toUInt32 >>> ((4 : Int32) &&& 31).toUInt32).toInt32 &&& (1 : Int32))))
    (he : ee.toInt = (en : Int)) (hn : en < 5) : fRef f ee = (chg (dif F0 F1) (dif F1 F2) (dif F2 F3) (dif F3 F4) en).toInt32 := by
  obtain ⟨d1, d2, d3, d4⟩ := own_d h0 h1 h2 h3 h4
  have k1 : (1 : Int32).toInt = 1 := by decide
  have k2 : (2 : Int32).toInt = 2 := by decide
  have k3 : (3 : Int32).toInt = 3 := by decide
  have k4 : (4 : Int32).toInt = 4 := by decide
  unfold fRef
  rw [d1, d2, d3, d4]
  simp only [Int32.lt_iff_toInt_lt, he, k1, k2, k3, k4]
  unfold chg
  generalize dif F0 F1 = a; generalize dif F1 F2 = b; generalize dif F2 F3 = c; generalize dif F3 F4 = d
  have hc : en = 0 ∨ en = 1 ∨ en = 2 ∨ en = 3 ∨ en = 4 := by omega
  have z0 : (0 : Int32) + a.toInt32 = a.toInt32 := Int32.zero_add _
  rcases hc with rfl | rfl | rfl | rfl | rfl <;> simp [Int32.ofNat_add] <;> rfl
theorem own_en {ee y : Int32} (h : ee = (y &&& (2147483647 : Int32)) % (5 : Int32)) : ∃ en : Nat, ee.toInt = (en : Int) ∧ en < 5 := by
  have M0 := (c_and y (2147483647 : Int32) (by decide)).1
  have e1 := (c_irem (y &&& 2147483647) 5 5 (by decide)).1 M0
  rw [← h] at e1
  exact ⟨ee.toInt.toNat, by omega, by omega⟩
theorem own_Fnz {x F : Int32} (h : F = (1 : Int32) + (x &&& (1 : Int32))) : ¬ F = 0 := fun q => by
  have h1 := c_and x 1 (by decide)
  have e := c_iadd 1 (x &&& 1)
  have one : (1 : Int32).toInt = 1 := by decide
  rw [← h, q, one, show (0 : Int32).toInt = 0 from by decide] at e
  omega

abbrev OPo (Z : State) (x0 x1 x2 x3 x4 x5 x6 : Value) : Cell → Prop := Own.ObjC Z "com/example/tracewarden/tracewarden/monitor/Openings" [(("com/example/tracewarden/tracewarden/monitor/Openings", "cells", "[J"), x0), (("com/example/tracewarden/tracewarden/monitor/Openings", "inner", "[J"), x1), (("com/example/tracewarden/tracewarden/monitor/Openings", "lastFound", "I"), x2), (("com/example/tracewarden/tracewarden/monitor/Openings", "foundBefore", "I"), x3), (("com/example/tracewarden/tracewarden/monitor/Openings", "times", "[Ljava/math/BigDecimal;"), x4), (("com/example/tracewarden/tracewarden/monitor/Openings", "count", "I"), x5), (("com/example/tracewarden/tracewarden/monitor/Openings", "first", "I"), x6)]
abbrev WEo (Z : State) (x0 x1 x2 x3 x4 x5 x6 x7 x8 : Value) : Cell → Prop := Own.ObjC Z "com/example/tracewarden/tracewarden/monitor/WindowEntries" [(("com/example/tracewarden/tracewarden/monitor/WindowEntries", "cells", "Lcom/example/tracewarden/tracewarden/monitor/Openings;"), x0), (("com/example/tracewarden/tracewarden/monitor/WindowEntries", "counts", "[I"), x1), (("com/example/tracewarden/tracewarden/monitor/WindowEntries", "factors", "[I"), x2), (("com/example/tracewarden/tracewarden/monitor/WindowEntries", "factorsIfLast", "[I"), x3), (("com/example/tracewarden/tracewarden/monitor/WindowEntries", "kept", "[J"), x4), (("com/example/tracewarden/tracewarden/monitor/WindowEntries", "slot", "I"), x5), (("com/example/tracewarden/tracewarden/monitor/WindowEntries", "stretches", "I"), x6), (("com/example/tracewarden/tracewarden/monitor/WindowEntries", "foundStretch", "I"), x7), (("com/example/tracewarden/tracewarden/monitor/WindowEntries", "foundStart", "I"), x8)]
theorem d10_0 : decode jdk_29_method_69_code 0 = .ok (.iload_n 0, 1) := by decide +kernel
theorem d10_1 : decode jdk_29_method_69_code 1 = .ok (.iload_n 1, 1) := by decide +kernel
theorem d10_2 : decode jdk_29_method_69_code 2 = .ok (.if_icmp .gt 7, 3) := by decide +kernel
theorem d10_5 : decode jdk_29_method_69_code 5 = .ok (.iload_n 0, 1) := by decide +kernel
theorem d10_6 : decode jdk_29_method_69_code 6 = .ok (.goto 4, 3) := by decide +kernel
theorem d10_9 : decode jdk_29_method_69_code 9 = .ok (.iload_n 1, 1) := by decide +kernel
theorem d10_10 : decode jdk_29_method_69_code 10 = .ok (.ireturn, 1) := by decide +kernel
theorem pn0 : plainFor (⟨"java/lang/Math", "min", "(II)I"⟩ : MethodName) = true := Jvm.Free.JP.mathPlain rfl (by decide +kernel)
theorem ef10 (m : MethodId) (x0 : Int32) (x1 : Int32) : entryFrame m #[(.int x0), (.int x1)] 2 = mkF m 0 #[.val (.int x0), .val (.int x1)] [] := by first | (simp [entryFrame, mkF, argsToLocals, Value.category]; done) | rfl
set_option maxRecDepth 65536 in
set_option maxHeartbeats 40000000 in
theorem rm10 (l : Launch) (Z : State) (a0 : Array Value) (hw : ∀ d ∈ tables_1, d.before a0 Z = true) (p0 : Int32) (p1 : Int32) (h0 : Heap) (n0 : Nat)   : Own.Does l (⟨"java/lang/Math", "min", "(II)I"⟩ : MethodName) jdk_29_method_69_code 2 (some .int) [] ({ frames := 0, cells := 0, slots := 0, locals := 0 } : Room) Z #[(.int p0), (.int p1)] h0 n0 (fun v h => v = some (.int (fMinI p0 p1)) ∧ h = h0) := by
  refine Own.doesOf pn0 ?_
  intro p e s m below meth c hx hby hml hret hlk hown hnm hZ
  refine Own.Goes.cast (ef10 m p0 p1) ?_
  refine Own.iloadN hx p0 (hb hby d10_0) rfl rfl ?_
  refine Own.iloadN hx p1 (hb hby d10_1) rfl rfl ?_
  obtain ⟨v2, h_v2⟩ : ∃ z : Int32, z = (if p1 < p0 then p1 else p0) := ⟨_, rfl⟩
  refine Own.Goes.join (mkF m 10 #[.val (.int p0), .val (.int p1)] [(.int v2)]) (fun kJ3 => ?_) ?_
  · refine Own.icmpF hx (Own.q_gt p0 p1) (hb hby d10_2) (pcN := 5) rfl (by decide) (pcT := 9) rfl (fun hc1 => ?_) (fun hc1 => ?_)
    · refine Own.iloadN hx p1 (hb hby d10_9) rfl rfl ?_
      try simp only [if_pos hc1] at h_v2
      subst h_v2
      exact kJ3
    · refine Own.iloadN hx p0 (hb hby d10_5) rfl rfl ?_
      refine Own.goto hx (hb hby d10_6) (by decide) (pc' := 10) rfl ?_
      try simp only [if_neg hc1] at h_v2
      subst h_v2
      exact kJ3
  exact Own.retI hx hret hlk (hb hby d10_10) (by decide) (by decide) ⟨by subst h_v2; simp only [fMinI], rfl⟩

theorem d4_0 : decode prog_92_method_1_code 0 = .ok (.aload_n 0, 1) := by decide +kernel
theorem d4_1 : decode prog_92_method_1_code 1 = .ok (.invokespecial 1, 3) := by decide +kernel
theorem d4_4 : decode prog_92_method_1_code 4 = .ok (.aload_n 0, 1) := by decide +kernel
theorem d4_5 : decode prog_92_method_1_code 5 = .ok (.bipush 16, 2) := by decide +kernel
theorem d4_7 : decode prog_92_method_1_code 7 = .ok (.newarray .long, 2) := by decide +kernel
theorem d4_9 : decode prog_92_method_1_code 9 = .ok (.putfield 7, 3) := by decide +kernel
theorem d4_12 : decode prog_92_method_1_code 12 = .ok (.aload_n 0, 1) := by decide +kernel
theorem d4_13 : decode prog_92_method_1_code 13 = .ok (.bipush 16, 2) := by decide +kernel
theorem d4_15 : decode prog_92_method_1_code 15 = .ok (.newarray .long, 2) := by decide +kernel
theorem d4_17 : decode prog_92_method_1_code 17 = .ok (.putfield 13, 3) := by decide +kernel
theorem d4_20 : decode prog_92_method_1_code 20 = .ok (.aload_n 0, 1) := by decide +kernel
theorem d4_21 : decode prog_92_method_1_code 21 = .ok (.iconst (-1), 1) := by decide +kernel
theorem d4_22 : decode prog_92_method_1_code 22 = .ok (.putfield 16, 3) := by decide +kernel
theorem d4_25 : decode prog_92_method_1_code 25 = .ok (.aload_n 0, 1) := by decide +kernel
theorem d4_26 : decode prog_92_method_1_code 26 = .ok (.iconst (-1), 1) := by decide +kernel
theorem d4_27 : decode prog_92_method_1_code 27 = .ok (.putfield 20, 3) := by decide +kernel
theorem d4_30 : decode prog_92_method_1_code 30 = .ok (.return_, 1) := by decide +kernel
theorem pn1 : plainFor (⟨"com/example/tracewarden/tracewarden/monitor/Openings", "<init>", "()V"⟩ : MethodName) = true := by first | exact plainFor_of_name (by simp [plainName, overriddenIn]; done) | decide +kernel
theorem ef4 (m : MethodId) (x0 : Addr) : entryFrame m #[(.ref x0)] 1 = mkF m 0 #[.val (.ref x0)] [] := by first | (simp [entryFrame, mkF, argsToLocals, Value.category]; done) | rfl
set_option maxRecDepth 65536 in
set_option maxHeartbeats 40000000 in
theorem rm4 (l : Launch) (Z : State) (a0 : Array Value) (hw : ∀ d ∈ tables_1, d.before a0 Z = true) (o0 : Addr) (h0 : Heap) (n0 : Nat)  (fr : List (Addr × (Cell → Prop))) (O0 : Own.Owns n0 h0 ((o0, OPo Z .null .null (iI 0) (iI 0) .null (iI 0) (iI 0)) :: fr))  : Own.Does l (⟨"com/example/tracewarden/tracewarden/monitor/Openings", "<init>", "()V"⟩ : MethodName) prog_92_method_1_code 1 none [] ({ frames := 1, cells := 2, slots := 32, locals := 13 } : Room) Z #[(.ref o0)] h0 n0 (fun v h => ∃ ra rb, v = none ∧ Own.Owns n0 h ((o0, OPo Z (.ref ra) (.ref rb) (iI (-1)) (iI (-1)) .null (iI 0) (iI 0)) :: (ra, Own.ArrC Z .long [(jJ 0), (jJ 0), (jJ 0), (jJ 0), (jJ 0), (jJ 0), (jJ 0), (jJ 0), (jJ 0), (jJ 0), (jJ 0), (jJ 0), (jJ 0), (jJ 0), (jJ 0), (jJ 0)]) :: (rb, Own.ArrC Z .long [(jJ 0), (jJ 0), (jJ 0), (jJ 0), (jJ 0), (jJ 0), (jJ 0), (jJ 0), (jJ 0), (jJ 0), (jJ 0), (jJ 0), (jJ 0), (jJ 0), (jJ 0), (jJ 0)]) :: fr)) := by
  refine Own.doesOf pn1 ?_
  intro p e s m below meth c hx hby hml hret hlk hown hnm hZ
  refine Own.Goes.cast (ef4 m o0) ?_
  refine Own.aloadN hx (.ref o0) (hb hby d4_0) rfl rfl rfl ?_
  refine Own.initobj hx hZ hown (hw _ (wm 19 rfl)) (hw _ (wm 8 rfl)) (hw _ (wm 9 rfl)) (by rw [hml]; rfl) (W := 0) (Nat.le_of_eq rfl) (by decide) (by decide) (hb hby d4_1) rfl ?_
  refine Own.aloadN hx (.ref o0) (hb hby d4_4) rfl rfl rfl ?_
  refine Own.bipush hx (16 : Int32) (hb hby d4_5) rfl (by decide) ?_
  refine Own.newarr hx hZ O0 (aty := .long) (hw _ (wm 20 rfl)) 16 (by decide) [(.long (0 : Int64)), (.long (0 : Int64)), (.long (0 : Int64)), (.long (0 : Int64)), (.long (0 : Int64)), (.long (0 : Int64)), (.long (0 : Int64)), (.long (0 : Int64)), (.long (0 : Int64)), (.long (0 : Int64)), (.long (0 : Int64)), (.long (0 : Int64)), (.long (0 : Int64)), (.long (0 : Int64)), (.long (0 : Int64)), (.long (0 : Int64))] rfl rfl (cap := 16) (by decide) (by decide) (k' := 1) (n' := 16) rfl rfl (by decide) (by decide) (hb hby d4_7) (pc' := 9) rfl ?_
  intro a1 h2 O3
  refine Own.putfield hx hZ hown O3 1 0 rfl rfl (hw _ (wm 21 rfl)) (Or.inl (hw _ (wm 22 rfl))) (hw _ (wm 15 rfl)) (ty := (.array .long)) (by decide) rfl rfl ((a1, Own.ArrC Z .long [(jJ 0), (jJ 0), (jJ 0), (jJ 0), (jJ 0), (jJ 0), (jJ 0), (jJ 0), (jJ 0), (jJ 0), (jJ 0), (jJ 0), (jJ 0), (jJ 0), (jJ 0), (jJ 0)]) :: (o0, OPo Z (.ref a1) .null (iI 0) (iI 0) .null (iI 0) (iI 0)) :: fr) rfl (hb hby d4_9) rfl ?_
  intro h4 O5
  refine Own.aloadN hx (.ref o0) (hb hby d4_12) rfl rfl rfl ?_
  refine Own.bipush hx (16 : Int32) (hb hby d4_13) rfl (by decide) ?_
  refine Own.newarr hx hZ O5 (aty := .long) (hw _ (wm 20 rfl)) 16 (by decide) [(.long (0 : Int64)), (.long (0 : Int64)), (.long (0 : Int64)), (.long (0 : Int64)), (.long (0 : Int64)), (.long (0 : Int64)), (.long (0 : Int64)), (.long (0 : Int64)), (.long (0 : Int64)), (.long (0 : Int64)), (.long (0 : Int64)), (.long (0 : Int64)), (.long (0 : Int64)), (.long (0 : Int64)), (.long (0 : Int64)), (.long (0 : Int64))] rfl rfl (cap := 16) (by decide) (by decide) (k' := 2) (n' := 32) rfl rfl (by decide) (by decide) (hb hby d4_15) (pc' := 17) rfl ?_
  intro a6 h7 O8
  refine Own.putfield hx hZ hown O8 2 1 rfl rfl (hw _ (wm 23 rfl)) (Or.inl (hw _ (wm 24 rfl))) (hw _ (wm 15 rfl)) (ty := (.array .long)) (by decide) rfl rfl ((a6, Own.ArrC Z .long [(jJ 0), (jJ 0), (jJ 0), (jJ 0), (jJ 0), (jJ 0), (jJ 0), (jJ 0), (jJ 0), (jJ 0), (jJ 0), (jJ 0), (jJ 0), (jJ 0), (jJ 0), (jJ 0)]) :: (a1, Own.ArrC Z .long [(jJ 0), (jJ 0), (jJ 0), (jJ 0), (jJ 0), (jJ 0), (jJ 0), (jJ 0), (jJ 0), (jJ 0), (jJ 0), (jJ 0), (jJ 0), (jJ 0), (jJ 0), (jJ 0)]) :: (o0, OPo Z (.ref a1) (.ref a6) (iI 0) (iI 0) .null (iI 0) (iI 0)) :: fr) rfl (hb hby d4_17) rfl ?_
  intro h9 O10
  refine Own.aloadN hx (.ref o0) (hb hby d4_20) rfl rfl rfl ?_
  refine Own.iconst hx (-1 : Int32) (hb hby d4_21) rfl (by decide) ?_
  refine Own.putfield hx hZ hown O10 2 2 rfl rfl (hw _ (wm 25 rfl)) (Or.inl (hw _ (wm 26 rfl))) (hw _ (wm 15 rfl)) (ty := .int) (by decide) rfl rfl ((a6, Own.ArrC Z .long [(jJ 0), (jJ 0), (jJ 0), (jJ 0), (jJ 0), (jJ 0), (jJ 0), (jJ 0), (jJ 0), (jJ 0), (jJ 0), (jJ 0), (jJ 0), (jJ 0), (jJ 0), (jJ 0)]) :: (a1, Own.ArrC Z .long [(jJ 0), (jJ 0), (jJ 0), (jJ 0), (jJ 0), (jJ 0), (jJ 0), (jJ 0), (jJ 0), (jJ 0), (jJ 0), (jJ 0), (jJ 0), (jJ 0), (jJ 0), (jJ 0)]) :: (o0, OPo Z (.ref a1) (.ref a6) (iI (-1)) (iI 0) .null (iI 0) (iI 0)) :: fr) rfl (hb hby d4_22) rfl ?_
  intro h11 O12
  refine Own.aloadN hx (.ref o0) (hb hby d4_25) rfl rfl rfl ?_
  refine Own.iconst hx (-1 : Int32) (hb hby d4_26) rfl (by decide) ?_
  refine Own.putfield hx hZ hown O12 2 3 rfl rfl (hw _ (wm 27 rfl)) (Or.inl (hw _ (wm 28 rfl))) (hw _ (wm 15 rfl)) (ty := .int) (by decide) rfl rfl ((a6, Own.ArrC Z .long [(jJ 0), (jJ 0), (jJ 0), (jJ 0), (jJ 0), (jJ 0), (jJ 0), (jJ 0), (jJ 0), (jJ 0), (jJ 0), (jJ 0), (jJ 0), (jJ 0), (jJ 0), (jJ 0)]) :: (a1, Own.ArrC Z .long [(jJ 0), (jJ 0), (jJ 0), (jJ 0), (jJ 0), (jJ 0), (jJ 0), (jJ 0), (jJ 0), (jJ 0), (jJ 0), (jJ 0), (jJ 0), (jJ 0), (jJ 0), (jJ 0)]) :: (o0, OPo Z (.ref a1) (.ref a6) (iI (-1)) (iI (-1)) .null (iI 0) (iI 0)) :: fr) rfl (hb hby d4_27) rfl ?_
  intro h13 O14
  have O15 : Own.Owns n0 h13 ((a1, Own.ArrC Z .long [(jJ 0), (jJ 0), (jJ 0), (jJ 0), (jJ 0), (jJ 0), (jJ 0), (jJ 0), (jJ 0), (jJ 0), (jJ 0), (jJ 0), (jJ 0), (jJ 0), (jJ 0), (jJ 0)]) :: (a6, Own.ArrC Z .long [(jJ 0), (jJ 0), (jJ 0), (jJ 0), (jJ 0), (jJ 0), (jJ 0), (jJ 0), (jJ 0), (jJ 0), (jJ 0), (jJ 0), (jJ 0), (jJ 0), (jJ 0), (jJ 0)]) :: (o0, OPo Z (.ref a1) (.ref a6) (iI (-1)) (iI (-1)) .null (iI 0) (iI 0)) :: fr) := O14.pick 1 rfl
  have O16 : Own.Owns n0 h13 ((o0, OPo Z (.ref a1) (.ref a6) (iI (-1)) (iI (-1)) .null (iI 0) (iI 0)) :: (a1, Own.ArrC Z .long [(jJ 0), (jJ 0), (jJ 0), (jJ 0), (jJ 0), (jJ 0), (jJ 0), (jJ 0), (jJ 0), (jJ 0), (jJ 0), (jJ 0), (jJ 0), (jJ 0), (jJ 0), (jJ 0)]) :: (a6, Own.ArrC Z .long [(jJ 0), (jJ 0), (jJ 0), (jJ 0), (jJ 0), (jJ 0), (jJ 0), (jJ 0), (jJ 0), (jJ 0), (jJ 0), (jJ 0), (jJ 0), (jJ 0), (jJ 0), (jJ 0)]) :: fr) := O15.pick 2 rfl
  exact Own.retV hx hret hlk (hb hby d4_30) (by decide) (by decide) ⟨a1, a6, rfl, O16⟩

theorem pd0 : parseMethodDescriptor "()V" = some ⟨[], none⟩ := by decide +kernel
theorem d3_0 : decode prog_92_method_2_code 0 = .ok (.new 8, 3) := by decide +kernel
theorem d3_3 : decode prog_92_method_2_code 3 = .ok (.dup, 1) := by decide +kernel
theorem d3_4 : decode prog_92_method_2_code 4 = .ok (.invokespecial 23, 3) := by decide +kernel
theorem d3_7 : decode prog_92_method_2_code 7 = .ok (.astore_n 0, 1) := by decide +kernel
theorem d3_8 : decode prog_92_method_2_code 8 = .ok (.aload_n 0, 1) := by decide +kernel
theorem d3_9 : decode prog_92_method_2_code 9 = .ok (.aload_n 0, 1) := by decide +kernel
theorem d3_10 : decode prog_92_method_2_code 10 = .ok (.getfield 7, 3) := by decide +kernel
theorem d3_13 : decode prog_92_method_2_code 13 = .ok (.arraylength, 1) := by decide +kernel
theorem d3_14 : decode prog_92_method_2_code 14 = .ok (.anewarray 24, 3) := by decide +kernel
theorem d3_17 : decode prog_92_method_2_code 17 = .ok (.putfield 26, 3) := by decide +kernel
theorem d3_20 : decode prog_92_method_2_code 20 = .ok (.aload_n 0, 1) := by decide +kernel
theorem d3_21 : decode prog_92_method_2_code 21 = .ok (.areturn, 1) := by decide +kernel
theorem pn2 : plainFor (⟨"com/example/tracewarden/tracewarden/monitor/Openings", "timed", "()Lcom/example/tracewarden/tracewarden/monitor/Openings;"⟩ : MethodName) = true := by first | exact plainFor_of_name (by simp [plainName, overriddenIn]; done) | decide +kernel
theorem ef3 (m : MethodId)  : entryFrame m #[] 1 = mkF m 0 #[.unset] [] := by first | (simp [entryFrame, mkF, argsToLocals, Value.category]; done) | rfl
set_option maxRecDepth 65536 in
set_option maxHeartbeats 40000000 in
theorem rm3 (l : Launch) (Z : State) (a0 : Array Value) (hw : ∀ d ∈ tables_1, d.before a0 Z = true)  (h0 : Heap) (n0 : Nat)  (fr : List (Addr × (Cell → Prop))) (O0 : Own.Owns n0 h0 (fr))  : Own.Does l (⟨"com/example/tracewarden/tracewarden/monitor/Openings", "timed", "()Lcom/example/tracewarden/tracewarden/monitor/Openings;"⟩ : MethodName) prog_92_method_2_code 1 (some (.object "com/example/tracewarden/tracewarden/monitor/Openings")) [] ({ frames := 2, cells := 4, slots := 55, locals := 26 } : Room) Z #[] h0 n0 (fun v h => ∃ o ra rb rt, v = some (.ref o) ∧ Own.Owns n0 h ((o, OPo Z (.ref ra) (.ref rb) (iI (-1)) (iI (-1)) (.ref rt) (iI 0) (iI 0)) :: (ra, Own.ArrC Z .long [(jJ 0), (jJ 0), (jJ 0), (jJ 0), (jJ 0), (jJ 0), (jJ 0), (jJ 0), (jJ 0), (jJ 0), (jJ 0), (jJ 0), (jJ 0), (jJ 0), (jJ 0), (jJ 0)]) :: (rb, Own.ArrC Z .long [(jJ 0), (jJ 0), (jJ 0), (jJ 0), (jJ 0), (jJ 0), (jJ 0), (jJ 0), (jJ 0), (jJ 0), (jJ 0), (jJ 0), (jJ 0), (jJ 0), (jJ 0), (jJ 0)]) :: (rt, Own.ArrC Z (.object "java/math/BigDecimal") [.null, .null, .null, .null, .null, .null, .null, .null, .null, .null, .null, .null, .null, .null, .null, .null]) :: fr)) := by
  refine Own.doesOf pn2 ?_
  intro p e s m below meth c hx hby hml hret hlk hown hnm hZ
  refine Own.Goes.cast (ef3 m ) ?_
  refine Own.newobj hx hZ hown O0 (hw _ (wm 14 rfl)) (hw _ (wm 15 rfl)) (hw _ (wm 12 rfl)) [(("com/example/tracewarden/tracewarden/monitor/Openings", "cells", "[J"), .null), (("com/example/tracewarden/tracewarden/monitor/Openings", "inner", "[J"), .null), (("com/example/tracewarden/tracewarden/monitor/Openings", "lastFound", "I"), (.int (0 : Int32))), (("com/example/tracewarden/tracewarden/monitor/Openings", "foundBefore", "I"), (.int (0 : Int32))), (("com/example/tracewarden/tracewarden/monitor/Openings", "times", "[Ljava/math/BigDecimal;"), .null), (("com/example/tracewarden/tracewarden/monitor/Openings", "count", "I"), (.int (0 : Int32))), (("com/example/tracewarden/tracewarden/monitor/Openings", "first", "I"), (.int (0 : Int32)))] (by intro f hf; simp only [List.mem_cons, List.not_mem_nil, or_false] at hf; rcases hf with rfl | rfl | rfl | rfl | rfl | rfl | rfl; exact ⟨Or.inl (hw _ (wm 22 rfl)), (.array .long), by decide, rfl⟩; exact ⟨Or.inl (hw _ (wm 24 rfl)), (.array .long), by decide, rfl⟩; exact ⟨Or.inl (hw _ (wm 26 rfl)), .int, by decide, rfl⟩; exact ⟨Or.inl (hw _ (wm 28 rfl)), .int, by decide, rfl⟩; exact ⟨Or.inl (hw _ (wm 32 rfl)), (.array (.object "java/math/BigDecimal")), by decide, rfl⟩; exact ⟨Or.inl (hw _ (wm 63 rfl)), .int, by decide, rfl⟩; exact ⟨Or.inl (hw _ (wm 69 rfl)), .int, by decide, rfl⟩) (by decide) (k' := 1) (n' := 7) rfl rfl (by decide) (by decide) (hb hby d3_0) (pc' := 3) rfl ?_
  intro a1 h2 O3
  refine Own.dup hx (hb hby d3_3) rfl rfl ?_
  refine Own.callI hx hZ hown rfl (hw _ (wm 16 rfl)) (hw _ (wm 17 rfl)) (hw _ (wm 12 rfl)) (hw _ (wm 18 rfl)) (by decide) pd0 (argsL := []) (rest := [(.ref a1)]) rfl (W := 1) (Nat.le_of_eq rfl) (rm := ({ frames := 1, cells := 2, slots := 32, locals := 13 } : Room)) (by decide) (by decide) (by decide) (by decide) (k' := 3) (n' := 39) rfl rfl (by rw [hml]; rfl) [(.ref a1), (.ref a1)] rfl (hb hby d3_4) (pc' := 7) rfl (rm4 l Z a0 hw a1 h2 n0 (fr) O3) ?_
  rintro _ h6 ⟨ra4, rb5, rfl, O7⟩
  show Own.Goes _ _ _ _ _ _ _ _ _ _ _ _ _ _ _ _ _ (mkF m 7 #[.unset] [(.ref a1)])
  refine Own.astoreN hx #[.val (.ref a1)] (hb hby d3_7) rfl rfl rfl ?_
  refine Own.aloadN hx (.ref a1) (hb hby d3_8) rfl rfl rfl ?_
  refine Own.aloadN hx (.ref a1) (hb hby d3_9) rfl rfl rfl ?_
  refine Own.getfield hx hZ hown O7 0 0 rfl rfl (hw _ (wm 21 rfl)) (hb hby d3_10) rfl ?_
  refine Own.arrlen hx hZ O7 1 rfl (16 : Int32) rfl (hb hby d3_13) rfl ?_
  refine Own.newarrR hx hZ hown O7 (hw _ (wm 29 rfl)) (hw _ (wm 30 rfl)) 16 (by decide) [.null, .null, .null, .null, .null, .null, .null, .null, .null, .null, .null, .null, .null, .null, .null, .null] rfl (cap := 16) (by decide) (by decide) (k' := 4) (n' := 55) rfl rfl (by decide) (by decide) (hb hby d3_14) (pc' := 17) rfl ?_
  intro a8 h9 O10
  refine Own.putfield hx hZ hown O10 1 4 rfl rfl (hw _ (wm 31 rfl)) (Or.inl (hw _ (wm 32 rfl))) (hw _ (wm 15 rfl)) (ty := (.array (.object "java/math/BigDecimal"))) (by decide) rfl rfl ((a8, Own.ArrC Z (.object "java/math/BigDecimal") [.null, .null, .null, .null, .null, .null, .null, .null, .null, .null, .null, .null, .null, .null, .null, .null]) :: (a1, OPo Z (.ref ra4) (.ref rb5) (iI (-1)) (iI (-1)) (.ref a8) (iI 0) (iI 0)) :: (ra4, Own.ArrC Z .long [(jJ 0), (jJ 0), (jJ 0), (jJ 0), (jJ 0), (jJ 0), (jJ 0), (jJ 0), (jJ 0), (jJ 0), (jJ 0), (jJ 0), (jJ 0), (jJ 0), (jJ 0), (jJ 0)]) :: (rb5, Own.ArrC Z .long [(jJ 0), (jJ 0), (jJ 0), (jJ 0), (jJ 0), (jJ 0), (jJ 0), (jJ 0), (jJ 0), (jJ 0), (jJ 0), (jJ 0), (jJ 0), (jJ 0), (jJ 0), (jJ 0)]) :: fr) rfl (hb hby d3_17) rfl ?_
  intro h11 O12
  refine Own.aloadN hx (.ref a1) (hb hby d3_20) rfl rfl rfl ?_
  have O13 : Own.Owns n0 h11 ((rb5, Own.ArrC Z .long [(jJ 0), (jJ 0), (jJ 0), (jJ 0), (jJ 0), (jJ 0), (jJ 0), (jJ 0), (jJ 0), (jJ 0), (jJ 0), (jJ 0), (jJ 0), (jJ 0), (jJ 0), (jJ 0)]) :: (a8, Own.ArrC Z (.object "java/math/BigDecimal") [.null, .null, .null, .null, .null, .null, .null, .null, .null, .null, .null, .null, .null, .null, .null, .null]) :: (a1, OPo Z (.ref ra4) (.ref rb5) (iI (-1)) (iI (-1)) (.ref a8) (iI 0) (iI 0)) :: (ra4, Own.ArrC Z .long [(jJ 0), (jJ 0), (jJ 0), (jJ 0), (jJ 0), (jJ 0), (jJ 0), (jJ 0), (jJ 0), (jJ 0), (jJ 0), (jJ 0), (jJ 0), (jJ 0), (jJ 0), (jJ 0)]) :: fr) := O12.pick 3 rfl
  have O14 : Own.Owns n0 h11 ((ra4, Own.ArrC Z .long [(jJ 0), (jJ 0), (jJ 0), (jJ 0), (jJ 0), (jJ 0), (jJ 0), (jJ 0), (jJ 0), (jJ 0), (jJ 0), (jJ 0), (jJ 0), (jJ 0), (jJ 0), (jJ 0)]) :: (rb5, Own.ArrC Z .long [(jJ 0), (jJ 0), (jJ 0), (jJ 0), (jJ 0), (jJ 0), (jJ 0), (jJ 0), (jJ 0), (jJ 0), (jJ 0), (jJ 0), (jJ 0), (jJ 0), (jJ 0), (jJ 0)]) :: (a8, Own.ArrC Z (.object "java/math/BigDecimal") [.null, .null, .null, .null, .null, .null, .null, .null, .null, .null, .null, .null, .null, .null, .null, .null]) :: (a1, OPo Z (.ref ra4) (.ref rb5) (iI (-1)) (iI (-1)) (.ref a8) (iI 0) (iI 0)) :: fr) := O13.pick 3 rfl
  have O15 : Own.Owns n0 h11 ((a1, OPo Z (.ref ra4) (.ref rb5) (iI (-1)) (iI (-1)) (.ref a8) (iI 0) (iI 0)) :: (ra4, Own.ArrC Z .long [(jJ 0), (jJ 0), (jJ 0), (jJ 0), (jJ 0), (jJ 0), (jJ 0), (jJ 0), (jJ 0), (jJ 0), (jJ 0), (jJ 0), (jJ 0), (jJ 0), (jJ 0), (jJ 0)]) :: (rb5, Own.ArrC Z .long [(jJ 0), (jJ 0), (jJ 0), (jJ 0), (jJ 0), (jJ 0), (jJ 0), (jJ 0), (jJ 0), (jJ 0), (jJ 0), (jJ 0), (jJ 0), (jJ 0), (jJ 0), (jJ 0)]) :: (a8, Own.ArrC Z (.object "java/math/BigDecimal") [.null, .null, .null, .null, .null, .null, .null, .null, .null, .null, .null, .null, .null, .null, .null, .null]) :: fr) := O14.pick 3 rfl
  exact Own.retA hx hret rfl hlk rfl rfl (hb hby d3_21) (by decide) (by decide) ⟨a1, ra4, rb5, a8, rfl, O15⟩

theorem d8_0 : decode prog_92_method_10_code 0 = .ok (.aload_n 0, 1) := by decide +kernel
theorem d8_1 : decode prog_92_method_10_code 1 = .ok (.getfield 33, 3) := by decide +kernel
theorem d8_4 : decode prog_92_method_10_code 4 = .ok (.aload_n 0, 1) := by decide +kernel
theorem d8_5 : decode prog_92_method_10_code 5 = .ok (.getfield 30, 3) := by decide +kernel
theorem d8_8 : decode prog_92_method_10_code 8 = .ok (.iadd, 1) := by decide +kernel
theorem d8_9 : decode prog_92_method_10_code 9 = .ok (.aload_n 0, 1) := by decide +kernel
theorem d8_10 : decode prog_92_method_10_code 10 = .ok (.getfield 7, 3) := by decide +kernel
theorem d8_13 : decode prog_92_method_10_code 13 = .ok (.arraylength, 1) := by decide +kernel
theorem d8_14 : decode prog_92_method_10_code 14 = .ok (.if_icmp .ne 85, 3) := by decide +kernel
theorem d8_99 : decode prog_92_method_10_code 99 = .ok (.return_, 1) := by decide +kernel
theorem pn3 : plainFor (⟨"com/example/tracewarden/tracewarden/monitor/Openings", "makeRoom", "()V"⟩ : MethodName) = true := by first | exact plainFor_of_name (by simp [plainName, overriddenIn]; done) | decide +kernel
theorem ef8_0 (m : MethodId) (x0 : Addr) : entryFrame m #[(.ref x0)] 1 = mkF m 0 #[.val (.ref x0)] [] := by first | (simp [entryFrame, mkF, argsToLocals, Value.category]; done) | rfl
set_option maxRecDepth 65536 in
set_option maxHeartbeats 40000000 in
theorem rm8_0 (l : Launch) (Z : State) (a0 : Array Value) (hw : ∀ d ∈ tables_1, d.before a0 Z = true) (o0 : Addr) (h0 : Heap) (n0 : Nat) (ra rb rt : Addr) (fr : List (Addr × (Cell → Prop))) (O0 : Own.Owns n0 h0 ((o0, OPo Z (.ref ra) (.ref rb) (iI (-1)) (iI (-1)) (.ref rt) (iI 0) (iI 0)) :: (ra, Own.ArrC Z .long [(jJ 0), (jJ 0), (jJ 0), (jJ 0), (jJ 0), (jJ 0), (jJ 0), (jJ 0), (jJ 0), (jJ 0), (jJ 0), (jJ 0), (jJ 0), (jJ 0), (jJ 0), (jJ 0)]) :: fr))  : Own.Does l (⟨"com/example/tracewarden/tracewarden/monitor/Openings", "makeRoom", "()V"⟩ : MethodName) prog_92_method_10_code 1 none [] ({ frames := 0, cells := 0, slots := 0, locals := 0 } : Room) Z #[(.ref o0)] h0 n0 (fun v h => v = none ∧ h = h0) := by
  refine Own.doesOf pn3 ?_
  intro p e s m below meth c hx hby hml hret hlk hown hnm hZ
  refine Own.Goes.cast (ef8_0 m o0) ?_
  refine Own.aloadN hx (.ref o0) (hb hby d8_0) rfl rfl rfl ?_
  refine Own.getfield hx hZ hown O0 0 6 rfl rfl (hw _ (wm 68 rfl)) (hb hby d8_1) rfl ?_
  refine Own.aloadN hx (.ref o0) (hb hby d8_4) rfl rfl rfl ?_
  refine Own.getfield hx hZ hown O0 0 5 rfl rfl (hw _ (wm 62 rfl)) (hb hby d8_5) rfl ?_
  refine Own.iadd hx (hb hby d8_8) rfl ?_
  refine Own.vI (0 : Int32) (by decide) ?_
  refine Own.aloadN hx (.ref o0) (hb hby d8_9) rfl rfl rfl ?_
  refine Own.getfield hx hZ hown O0 0 0 rfl rfl (hw _ (wm 21 rfl)) (hb hby d8_10) rfl ?_
  refine Own.arrlen hx hZ O0 1 rfl (16 : Int32) rfl (hb hby d8_13) rfl ?_
  have hc1 : ¬ ((0 : Int32) = (16 : Int32)) := by decide
  refine Own.icmpFn hx (Own.q_ne (0 : Int32) (16 : Int32)) (hb hby d8_14) (pcN := 17) rfl (by decide) (pcT := 99) rfl (fun _ => ?_) (fun q => absurd q hc1)
  exact Own.retV hx hret hlk (hb hby d8_99) (by decide) (by decide) ⟨rfl, rfl⟩

theorem d7_0 : decode prog_92_method_9_code 0 = .ok (.aload_n 0, 1) := by decide +kernel
theorem d7_1 : decode prog_92_method_9_code 1 = .ok (.getfield 30, 3) := by decide +kernel
theorem d7_4 : decode prog_92_method_9_code 4 = .ok (.ifCond .le 25, 3) := by decide +kernel
theorem d7_29 : decode prog_92_method_9_code 29 = .ok (.aload_n 0, 1) := by decide +kernel
theorem d7_30 : decode prog_92_method_9_code 30 = .ok (.invokevirtual 40, 3) := by decide +kernel
theorem d7_33 : decode prog_92_method_9_code 33 = .ok (.aload_n 0, 1) := by decide +kernel
theorem d7_34 : decode prog_92_method_9_code 34 = .ok (.getfield 13, 3) := by decide +kernel
theorem d7_37 : decode prog_92_method_9_code 37 = .ok (.aload_n 0, 1) := by decide +kernel
theorem d7_38 : decode prog_92_method_9_code 38 = .ok (.getfield 33, 3) := by decide +kernel
theorem d7_41 : decode prog_92_method_9_code 41 = .ok (.aload_n 0, 1) := by decide +kernel
theorem d7_42 : decode prog_92_method_9_code 42 = .ok (.getfield 30, 3) := by decide +kernel
theorem d7_45 : decode prog_92_method_9_code 45 = .ok (.iadd, 1) := by decide +kernel
theorem d7_46 : decode prog_92_method_9_code 46 = .ok (.lload_n 1, 1) := by decide +kernel
theorem d7_47 : decode prog_92_method_9_code 47 = .ok (.lastore, 1) := by decide +kernel
theorem d7_48 : decode prog_92_method_9_code 48 = .ok (.aload_n 0, 1) := by decide +kernel
theorem d7_49 : decode prog_92_method_9_code 49 = .ok (.getfield 26, 3) := by decide +kernel
theorem d7_52 : decode prog_92_method_9_code 52 = .ok (.aload_n 0, 1) := by decide +kernel
theorem d7_53 : decode prog_92_method_9_code 53 = .ok (.getfield 33, 3) := by decide +kernel
theorem d7_56 : decode prog_92_method_9_code 56 = .ok (.aload_n 0, 1) := by decide +kernel
theorem d7_57 : decode prog_92_method_9_code 57 = .ok (.getfield 30, 3) := by decide +kernel
theorem d7_60 : decode prog_92_method_9_code 60 = .ok (.iadd, 1) := by decide +kernel
theorem d7_61 : decode prog_92_method_9_code 61 = .ok (.aload_n 3, 1) := by decide +kernel
theorem d7_62 : decode prog_92_method_9_code 62 = .ok (.aastore, 1) := by decide +kernel
theorem d7_63 : decode prog_92_method_9_code 63 = .ok (.aload_n 0, 1) := by decide +kernel
theorem d7_64 : decode prog_92_method_9_code 64 = .ok (.getfield 7, 3) := by decide +kernel
theorem d7_67 : decode prog_92_method_9_code 67 = .ok (.aload_n 0, 1) := by decide +kernel
theorem d7_68 : decode prog_92_method_9_code 68 = .ok (.getfield 33, 3) := by decide +kernel
theorem d7_71 : decode prog_92_method_9_code 71 = .ok (.aload_n 0, 1) := by decide +kernel
theorem d7_72 : decode prog_92_method_9_code 72 = .ok (.dup, 1) := by decide +kernel
theorem d7_73 : decode prog_92_method_9_code 73 = .ok (.getfield 30, 3) := by decide +kernel
theorem d7_76 : decode prog_92_method_9_code 76 = .ok (.dup_x1, 1) := by decide +kernel
theorem d7_77 : decode prog_92_method_9_code 77 = .ok (.iconst 1, 1) := by decide +kernel
theorem d7_78 : decode prog_92_method_9_code 78 = .ok (.iadd, 1) := by decide +kernel
theorem d7_79 : decode prog_92_method_9_code 79 = .ok (.putfield 30, 3) := by decide +kernel
theorem d7_82 : decode prog_92_method_9_code 82 = .ok (.iadd, 1) := by decide +kernel
theorem d7_83 : decode prog_92_method_9_code 83 = .ok (.lload_n 1, 1) := by decide +kernel
theorem d7_84 : decode prog_92_method_9_code 84 = .ok (.lastore, 1) := by decide +kernel
theorem d7_85 : decode prog_92_method_9_code 85 = .ok (.return_, 1) := by decide +kernel
theorem pn4 : plainFor (⟨"com/example/tracewarden/tracewarden/monitor/Openings", "add", "(JLjava/math/BigDecimal;)V"⟩ : MethodName) = true := by first | exact plainFor_of_name (by simp [plainName, overriddenIn]; done) | decide +kernel
theorem ef7_0 (m : MethodId) (x0 : Addr) (x1 : Int64) : entryFrame m #[(.ref x0), (.long x1), .null] 4 = mkF m 0 #[.val (.ref x0), .val (.long x1), .second, .val .null] [] := by first | (simp [entryFrame, mkF, argsToLocals, Value.category]; done) | rfl
set_option maxRecDepth 65536 in
set_option maxHeartbeats 40000000 in
theorem rm7_0 (l : Launch) (Z : State) (a0 : Array Value) (hw : ∀ d ∈ tables_1, d.before a0 Z = true) (o0 : Addr) (h0 : Heap) (n0 : Nat) (ra rb rt : Addr) (fr : List (Addr × (Cell → Prop))) (O0 : Own.Owns n0 h0 ((o0, OPo Z (.ref ra) (.ref rb) (iI (-1)) (iI (-1)) (.ref rt) (iI 0) (iI 0)) :: (ra, Own.ArrC Z .long [(jJ 0), (jJ 0), (jJ 0), (jJ 0), (jJ 0), (jJ 0), (jJ 0), (jJ 0), (jJ 0), (jJ 0), (jJ 0), (jJ 0), (jJ 0), (jJ 0), (jJ 0), (jJ 0)]) :: (rb, Own.ArrC Z .long [(jJ 0), (jJ 0), (jJ 0), (jJ 0), (jJ 0), (jJ 0), (jJ 0), (jJ 0), (jJ 0), (jJ 0), (jJ 0), (jJ 0), (jJ 0), (jJ 0), (jJ 0), (jJ 0)]) :: (rt, Own.ArrC Z (.object "java/math/BigDecimal") [.null, .null, .null, .null, .null, .null, .null, .null, .null, .null, .null, .null, .null, .null, .null, .null]) :: fr))  : Own.Does l (⟨"com/example/tracewarden/tracewarden/monitor/Openings", "add", "(JLjava/math/BigDecimal;)V"⟩ : MethodName) prog_92_method_9_code 4 none [] ({ frames := 1, cells := 0, slots := 0, locals := 12 } : Room) Z #[(.ref o0), (.long (0 : Int64)), .null] h0 n0 (fun v h => v = none ∧ Own.Owns n0 h ((o0, OPo Z (.ref ra) (.ref rb) (iI (-1)) (iI (-1)) (.ref rt) (iI 1) (iI 0)) :: (ra, Own.ArrC Z .long [(jJ 0), (jJ 0), (jJ 0), (jJ 0), (jJ 0), (jJ 0), (jJ 0), (jJ 0), (jJ 0), (jJ 0), (jJ 0), (jJ 0), (jJ 0), (jJ 0), (jJ 0), (jJ 0)]) :: (rb, Own.ArrC Z .long [(jJ 0), (jJ 0), (jJ 0), (jJ 0), (jJ 0), (jJ 0), (jJ 0), (jJ 0), (jJ 0), (jJ 0), (jJ 0), (jJ 0), (jJ 0), (jJ 0), (jJ 0), (jJ 0)]) :: (rt, Own.ArrC Z (.object "java/math/BigDecimal") [.null, .null, .null, .null, .null, .null, .null, .null, .null, .null, .null, .null, .null, .null, .null, .null]) :: fr)) := by
  refine Own.doesOf pn4 ?_
  intro p e s m below meth c hx hby hml hret hlk hown hnm hZ
  refine Own.Goes.cast (ef7_0 m o0 (0 : Int64)) ?_
  refine Own.aloadN hx (.ref o0) (hb hby d7_0) rfl rfl rfl ?_
  refine Own.getfield hx hZ hown O0 0 5 rfl rfl (hw _ (wm 62 rfl)) (hb hby d7_1) rfl ?_
  have hc1 : ¬ ((0 : Int32) < (0 : Int32)) := by decide
  refine Own.ifFn hx (Own.z_le (0 : Int32)) (hb hby d7_4) (pcN := 7) rfl (by decide) (pcT := 29) rfl (fun _ => ?_) (fun q => absurd q hc1)
  refine Own.aloadN hx (.ref o0) (hb hby d7_29) rfl rfl rfl ?_
  refine Own.callP hx hZ hown (O0.exa (i := 0) rfl) (hw _ (wm 64 rfl)) (hw _ (wm 65 rfl)) (hw _ (wm 15 rfl)) (hw _ (wm 66 rfl)) (hw _ (wm 12 rfl)) (hw _ (wm 67 rfl)) (by decide) pd0 (argsL := []) (rest := []) rfl (W := 0) (Nat.le_of_eq rfl) (rm := ({ frames := 0, cells := 0, slots := 0, locals := 0 } : Room)) (by decide) (by decide) (by decide) (by decide) (k' := 0) (n' := 0) rfl rfl (by rw [hml]; rfl) [(.ref o0)] rfl (hb hby d7_30) (pc' := 33) rfl (rm8_0 l Z a0 hw o0 h0 n0 ra rb rt ((rb, Own.ArrC Z .long [(jJ 0), (jJ 0), (jJ 0), (jJ 0), (jJ 0), (jJ 0), (jJ 0), (jJ 0), (jJ 0), (jJ 0), (jJ 0), (jJ 0), (jJ 0), (jJ 0), (jJ 0), (jJ 0)]) :: (rt, Own.ArrC Z (.object "java/math/BigDecimal") [.null, .null, .null, .null, .null, .null, .null, .null, .null, .null, .null, .null, .null, .null, .null, .null]) :: fr) O0) ?_
  rintro _ h' ⟨rfl, eh⟩
  rw [eh]; clear eh h'
  show Own.Goes _ _ _ _ _ _ _ _ _ _ _ _ _ _ _ _ _ (mkF m 33 #[.val (.ref o0), .val (.long (0 : Int64)), .second, .val .null] [])
  refine Own.aloadN hx (.ref o0) (hb hby d7_33) rfl rfl rfl ?_
  refine Own.getfield hx hZ hown O0 0 1 rfl rfl (hw _ (wm 23 rfl)) (hb hby d7_34) rfl ?_
  refine Own.aloadN hx (.ref o0) (hb hby d7_37) rfl rfl rfl ?_
  refine Own.getfield hx hZ hown O0 0 6 rfl rfl (hw _ (wm 68 rfl)) (hb hby d7_38) rfl ?_
  refine Own.aloadN hx (.ref o0) (hb hby d7_41) rfl rfl rfl ?_
  refine Own.getfield hx hZ hown O0 0 5 rfl rfl (hw _ (wm 62 rfl)) (hb hby d7_42) rfl ?_
  refine Own.iadd hx (hb hby d7_45) rfl ?_
  refine Own.vI (0 : Int32) (by decide) ?_
  refine Own.lloadN hx (0 : Int64) (hb hby d7_46) rfl rfl ?_
  refine Own.lastore hx hZ O0 2 0 rfl (by decide) (by exact (show 0 < 16 by decide)) ((o0, OPo Z (.ref ra) (.ref rb) (iI (-1)) (iI (-1)) (.ref rt) (iI 0) (iI 0)) :: (ra, Own.ArrC Z .long [(jJ 0), (jJ 0), (jJ 0), (jJ 0), (jJ 0), (jJ 0), (jJ 0), (jJ 0), (jJ 0), (jJ 0), (jJ 0), (jJ 0), (jJ 0), (jJ 0), (jJ 0), (jJ 0)]) :: (rb, Own.ArrC Z .long [(jJ 0), (jJ 0), (jJ 0), (jJ 0), (jJ 0), (jJ 0), (jJ 0), (jJ 0), (jJ 0), (jJ 0), (jJ 0), (jJ 0), (jJ 0), (jJ 0), (jJ 0), (jJ 0)]) :: (rt, Own.ArrC Z (.object "java/math/BigDecimal") [.null, .null, .null, .null, .null, .null, .null, .null, .null, .null, .null, .null, .null, .null, .null, .null]) :: fr) rfl (hb hby d7_47) rfl ?_
  intro h3 O4
  refine Own.aloadN hx (.ref o0) (hb hby d7_48) rfl rfl rfl ?_
  refine Own.getfield hx hZ hown O4 0 4 rfl rfl (hw _ (wm 31 rfl)) (hb hby d7_49) rfl ?_
  refine Own.aloadN hx (.ref o0) (hb hby d7_52) rfl rfl rfl ?_
  refine Own.getfield hx hZ hown O4 0 6 rfl rfl (hw _ (wm 68 rfl)) (hb hby d7_53) rfl ?_
  refine Own.aloadN hx (.ref o0) (hb hby d7_56) rfl rfl rfl ?_
  refine Own.getfield hx hZ hown O4 0 5 rfl rfl (hw _ (wm 62 rfl)) (hb hby d7_57) rfl ?_
  refine Own.iadd hx (hb hby d7_60) rfl ?_
  refine Own.vI (0 : Int32) (by decide) ?_
  refine Own.aloadN hx .null (hb hby d7_61) rfl rfl rfl ?_
  refine Own.aastoreN hx hZ O4 3 0 rfl (by decide) (by exact (show 0 < 16 by decide)) ((o0, OPo Z (.ref ra) (.ref rb) (iI (-1)) (iI (-1)) (.ref rt) (iI 0) (iI 0)) :: (ra, Own.ArrC Z .long [(jJ 0), (jJ 0), (jJ 0), (jJ 0), (jJ 0), (jJ 0), (jJ 0), (jJ 0), (jJ 0), (jJ 0), (jJ 0), (jJ 0), (jJ 0), (jJ 0), (jJ 0), (jJ 0)]) :: (rb, Own.ArrC Z .long [(jJ 0), (jJ 0), (jJ 0), (jJ 0), (jJ 0), (jJ 0), (jJ 0), (jJ 0), (jJ 0), (jJ 0), (jJ 0), (jJ 0), (jJ 0), (jJ 0), (jJ 0), (jJ 0)]) :: (rt, Own.ArrC Z (.object "java/math/BigDecimal") [.null, .null, .null, .null, .null, .null, .null, .null, .null, .null, .null, .null, .null, .null, .null, .null]) :: fr) rfl (hb hby d7_62) rfl ?_
  intro h5 O6
  refine Own.aloadN hx (.ref o0) (hb hby d7_63) rfl rfl rfl ?_
  refine Own.getfield hx hZ hown O6 0 0 rfl rfl (hw _ (wm 21 rfl)) (hb hby d7_64) rfl ?_
  refine Own.aloadN hx (.ref o0) (hb hby d7_67) rfl rfl rfl ?_
  refine Own.getfield hx hZ hown O6 0 6 rfl rfl (hw _ (wm 68 rfl)) (hb hby d7_68) rfl ?_
  refine Own.aloadN hx (.ref o0) (hb hby d7_71) rfl rfl rfl ?_
  refine Own.dup hx (hb hby d7_72) rfl rfl ?_
  refine Own.getfield hx hZ hown O6 0 5 rfl rfl (hw _ (wm 62 rfl)) (hb hby d7_73) rfl ?_
  refine Own.dupX1 hx (hb hby d7_76) rfl rfl rfl ?_
  refine Own.iconst hx (1 : Int32) (hb hby d7_77) rfl (by decide) ?_
  refine Own.iadd hx (hb hby d7_78) rfl ?_
  refine Own.vI (1 : Int32) (by decide) ?_
  refine Own.putfield hx hZ hown O6 0 5 rfl rfl (hw _ (wm 62 rfl)) (Or.inl (hw _ (wm 63 rfl))) (hw _ (wm 15 rfl)) (ty := .int) (by decide) rfl rfl ((o0, OPo Z (.ref ra) (.ref rb) (iI (-1)) (iI (-1)) (.ref rt) (iI 1) (iI 0)) :: (ra, Own.ArrC Z .long [(jJ 0), (jJ 0), (jJ 0), (jJ 0), (jJ 0), (jJ 0), (jJ 0), (jJ 0), (jJ 0), (jJ 0), (jJ 0), (jJ 0), (jJ 0), (jJ 0), (jJ 0), (jJ 0)]) :: (rb, Own.ArrC Z .long [(jJ 0), (jJ 0), (jJ 0), (jJ 0), (jJ 0), (jJ 0), (jJ 0), (jJ 0), (jJ 0), (jJ 0), (jJ 0), (jJ 0), (jJ 0), (jJ 0), (jJ 0), (jJ 0)]) :: (rt, Own.ArrC Z (.object "java/math/BigDecimal") [.null, .null, .null, .null, .null, .null, .null, .null, .null, .null, .null, .null, .null, .null, .null, .null]) :: fr) rfl (hb hby d7_79) rfl ?_
  intro h7 O8
  refine Own.iadd hx (hb hby d7_82) rfl ?_
  refine Own.vI (0 : Int32) (by decide) ?_
  refine Own.lloadN hx (0 : Int64) (hb hby d7_83) rfl rfl ?_
  refine Own.lastore hx hZ O8 1 0 rfl (by decide) (by exact (show 0 < 16 by decide)) ((o0, OPo Z (.ref ra) (.ref rb) (iI (-1)) (iI (-1)) (.ref rt) (iI 1) (iI 0)) :: (ra, Own.ArrC Z .long [(jJ 0), (jJ 0), (jJ 0), (jJ 0), (jJ 0), (jJ 0), (jJ 0), (jJ 0), (jJ 0), (jJ 0), (jJ 0), (jJ 0), (jJ 0), (jJ 0), (jJ 0), (jJ 0)]) :: (rb, Own.ArrC Z .long [(jJ 0), (jJ 0), (jJ 0), (jJ 0), (jJ 0), (jJ 0), (jJ 0), (jJ 0), (jJ 0), (jJ 0), (jJ 0), (jJ 0), (jJ 0), (jJ 0), (jJ 0), (jJ 0)]) :: (rt, Own.ArrC Z (.object "java/math/BigDecimal") [.null, .null, .null, .null, .null, .null, .null, .null, .null, .null, .null, .null, .null, .null, .null, .null]) :: fr) rfl (hb hby d7_84) rfl ?_
  intro h9 O10
  exact Own.retV hx hret hlk (hb hby d7_85) (by decide) (by decide) ⟨rfl, O10⟩

theorem ef8_1 (m : MethodId) (x0 : Addr) : entryFrame m #[(.ref x0)] 1 = mkF m 0 #[.val (.ref x0)] [] := by first | (simp [entryFrame, mkF, argsToLocals, Value.category]; done) | rfl
set_option maxRecDepth 65536 in
set_option maxHeartbeats 40000000 in
theorem rm8_1 (l : Launch) (Z : State) (a0 : Array Value) (hw : ∀ d ∈ tables_1, d.before a0 Z = true) (o0 : Addr) (h0 : Heap) (n0 : Nat) (ra rb rt : Addr) (fr : List (Addr × (Cell → Prop))) (O0 : Own.Owns n0 h0 ((o0, OPo Z (.ref ra) (.ref rb) (iI (-1)) (iI (-1)) (.ref rt) (iI 1) (iI 0)) :: (ra, Own.ArrC Z .long [(jJ 0), (jJ 0), (jJ 0), (jJ 0), (jJ 0), (jJ 0), (jJ 0), (jJ 0), (jJ 0), (jJ 0), (jJ 0), (jJ 0), (jJ 0), (jJ 0), (jJ 0), (jJ 0)]) :: fr))  : Own.Does l (⟨"com/example/tracewarden/tracewarden/monitor/Openings", "makeRoom", "()V"⟩ : MethodName) prog_92_method_10_code 1 none [] ({ frames := 0, cells := 0, slots := 0, locals := 0 } : Room) Z #[(.ref o0)] h0 n0 (fun v h => v = none ∧ h = h0) := by
  refine Own.doesOf pn3 ?_
  intro p e s m below meth c hx hby hml hret hlk hown hnm hZ
  refine Own.Goes.cast (ef8_1 m o0) ?_
  refine Own.aloadN hx (.ref o0) (hb hby d8_0) rfl rfl rfl ?_
  refine Own.getfield hx hZ hown O0 0 6 rfl rfl (hw _ (wm 68 rfl)) (hb hby d8_1) rfl ?_
  refine Own.aloadN hx (.ref o0) (hb hby d8_4) rfl rfl rfl ?_
  refine Own.getfield hx hZ hown O0 0 5 rfl rfl (hw _ (wm 62 rfl)) (hb hby d8_5) rfl ?_
  refine Own.iadd hx (hb hby d8_8) rfl ?_
  refine Own.vI (1 : Int32) (by decide) ?_
  refine Own.aloadN hx (.ref o0) (hb hby d8_9) rfl rfl rfl ?_
  refine Own.getfield hx hZ hown O0 0 0 rfl rfl (hw _ (wm 21 rfl)) (hb hby d8_10) rfl ?_
  refine Own.arrlen hx hZ O0 1 rfl (16 : Int32) rfl (hb hby d8_13) rfl ?_
  have hc1 : ¬ ((1 : Int32) = (16 : Int32)) := by decide
  refine Own.icmpFn hx (Own.q_ne (1 : Int32) (16 : Int32)) (hb hby d8_14) (pcN := 17) rfl (by decide) (pcT := 99) rfl (fun _ => ?_) (fun q => absurd q hc1)
  exact Own.retV hx hret hlk (hb hby d8_99) (by decide) (by decide) ⟨rfl, rfl⟩

theorem d7_7 : decode prog_92_method_9_code 7 = .ok (.aload_n 0, 1) := by decide +kernel
theorem d7_8 : decode prog_92_method_9_code 8 = .ok (.getfield 7, 3) := by decide +kernel
theorem d7_11 : decode prog_92_method_9_code 11 = .ok (.aload_n 0, 1) := by decide +kernel
theorem d7_12 : decode prog_92_method_9_code 12 = .ok (.getfield 33, 3) := by decide +kernel
theorem d7_15 : decode prog_92_method_9_code 15 = .ok (.aload_n 0, 1) := by decide +kernel
theorem d7_16 : decode prog_92_method_9_code 16 = .ok (.getfield 30, 3) := by decide +kernel
theorem d7_19 : decode prog_92_method_9_code 19 = .ok (.iadd, 1) := by decide +kernel
theorem d7_20 : decode prog_92_method_9_code 20 = .ok (.iconst 1, 1) := by decide +kernel
theorem d7_21 : decode prog_92_method_9_code 21 = .ok (.isub, 1) := by decide +kernel
theorem d7_22 : decode prog_92_method_9_code 22 = .ok (.laload, 1) := by decide +kernel
theorem d7_23 : decode prog_92_method_9_code 23 = .ok (.lload_n 1, 1) := by decide +kernel
theorem d7_24 : decode prog_92_method_9_code 24 = .ok (.lcmp, 1) := by decide +kernel
theorem d7_25 : decode prog_92_method_9_code 25 = .ok (.ifCond .ne 4, 3) := by decide +kernel
theorem ef7_1 (m : MethodId) (x0 : Addr) (x1 : Int64) : entryFrame m #[(.ref x0), (.long x1), .null] 4 = mkF m 0 #[.val (.ref x0), .val (.long x1), .second, .val .null] [] := by first | (simp [entryFrame, mkF, argsToLocals, Value.category]; done) | rfl
set_option maxRecDepth 65536 in
set_option maxHeartbeats 40000000 in
theorem rm7_1 (l : Launch) (Z : State) (a0 : Array Value) (hw : ∀ d ∈ tables_1, d.before a0 Z = true) (o0 : Addr) (h0 : Heap) (n0 : Nat) (ra rb rt : Addr) (fr : List (Addr × (Cell → Prop))) (O0 : Own.Owns n0 h0 ((o0, OPo Z (.ref ra) (.ref rb) (iI (-1)) (iI (-1)) (.ref rt) (iI 1) (iI 0)) :: (ra, Own.ArrC Z .long [(jJ 0), (jJ 0), (jJ 0), (jJ 0), (jJ 0), (jJ 0), (jJ 0), (jJ 0), (jJ 0), (jJ 0), (jJ 0), (jJ 0), (jJ 0), (jJ 0), (jJ 0), (jJ 0)]) :: (rb, Own.ArrC Z .long [(jJ 0), (jJ 0), (jJ 0), (jJ 0), (jJ 0), (jJ 0), (jJ 0), (jJ 0), (jJ 0), (jJ 0), (jJ 0), (jJ 0), (jJ 0), (jJ 0), (jJ 0), (jJ 0)]) :: (rt, Own.ArrC Z (.object "java/math/BigDecimal") [.null, .null, .null, .null, .null, .null, .null, .null, .null, .null, .null, .null, .null, .null, .null, .null]) :: fr))  : Own.Does l (⟨"com/example/tracewarden/tracewarden/monitor/Openings", "add", "(JLjava/math/BigDecimal;)V"⟩ : MethodName) prog_92_method_9_code 4 none [] ({ frames := 1, cells := 0, slots := 0, locals := 12 } : Room) Z #[(.ref o0), (.long (1 : Int64)), .null] h0 n0 (fun v h => v = none ∧ Own.Owns n0 h ((o0, OPo Z (.ref ra) (.ref rb) (iI (-1)) (iI (-1)) (.ref rt) (iI 2) (iI 0)) :: (ra, Own.ArrC Z .long [(jJ 0), (jJ 1), (jJ 0), (jJ 0), (jJ 0), (jJ 0), (jJ 0), (jJ 0), (jJ 0), (jJ 0), (jJ 0), (jJ 0), (jJ 0), (jJ 0), (jJ 0), (jJ 0)]) :: (rb, Own.ArrC Z .long [(jJ 0), (jJ 1), (jJ 0), (jJ 0), (jJ 0), (jJ 0), (jJ 0), (jJ 0), (jJ 0), (jJ 0), (jJ 0), (jJ 0), (jJ 0), (jJ 0), (jJ 0), (jJ 0)]) :: (rt, Own.ArrC Z (.object "java/math/BigDecimal") [.null, .null, .null, .null, .null, .null, .null, .null, .null, .null, .null, .null, .null, .null, .null, .null]) :: fr)) := by
  refine Own.doesOf pn4 ?_
  intro p e s m below meth c hx hby hml hret hlk hown hnm hZ
  refine Own.Goes.cast (ef7_1 m o0 (1 : Int64)) ?_
  refine Own.aloadN hx (.ref o0) (hb hby d7_0) rfl rfl rfl ?_
  refine Own.getfield hx hZ hown O0 0 5 rfl rfl (hw _ (wm 62 rfl)) (hb hby d7_1) rfl ?_
  have hc1 : (0 : Int32) < (1 : Int32) := by decide
  refine Own.ifFn hx (Own.z_le (1 : Int32)) (hb hby d7_4) (pcN := 7) rfl (by decide) (pcT := 29) rfl (fun q => absurd hc1 q) (fun _ => ?_)
  refine Own.aloadN hx (.ref o0) (hb hby d7_7) rfl rfl rfl ?_
  refine Own.getfield hx hZ hown O0 0 0 rfl rfl (hw _ (wm 21 rfl)) (hb hby d7_8) rfl ?_
  refine Own.aloadN hx (.ref o0) (hb hby d7_11) rfl rfl rfl ?_
  refine Own.getfield hx hZ hown O0 0 6 rfl rfl (hw _ (wm 68 rfl)) (hb hby d7_12) rfl ?_
  refine Own.aloadN hx (.ref o0) (hb hby d7_15) rfl rfl rfl ?_
  refine Own.getfield hx hZ hown O0 0 5 rfl rfl (hw _ (wm 62 rfl)) (hb hby d7_16) rfl ?_
  refine Own.iadd hx (hb hby d7_19) rfl ?_
  refine Own.vI (1 : Int32) (by decide) ?_
  refine Own.iconst hx (1 : Int32) (hb hby d7_20) rfl (by decide) ?_
  refine Own.isub hx (hb hby d7_21) rfl ?_
  refine Own.vI (0 : Int32) (by decide) ?_
  refine Own.laload hx hZ O0 1 0 rfl (by decide) (v := (.long (0 : Int64))) rfl (hb hby d7_22) rfl ?_
  refine Own.lloadN hx (1 : Int64) (hb hby d7_23) rfl rfl ?_
  refine Own.lcmp hx (hb hby d7_24) rfl ?_
  have hc3 : ¬ ((0 : Int64) = (1 : Int64)) := by decide
  refine Own.ifFn hx (Own.w_ne (0 : Int64) (1 : Int64)) (hb hby d7_25) (pcN := 28) rfl (by decide) (pcT := 29) rfl (fun _ => ?_) (fun q => absurd q hc3)
  refine Own.aloadN hx (.ref o0) (hb hby d7_29) rfl rfl rfl ?_
  refine Own.callP hx hZ hown (O0.exa (i := 0) rfl) (hw _ (wm 64 rfl)) (hw _ (wm 65 rfl)) (hw _ (wm 15 rfl)) (hw _ (wm 66 rfl)) (hw _ (wm 12 rfl)) (hw _ (wm 67 rfl)) (by decide) pd0 (argsL := []) (rest := []) rfl (W := 0) (Nat.le_of_eq rfl) (rm := ({ frames := 0, cells := 0, slots := 0, locals := 0 } : Room)) (by decide) (by decide) (by decide) (by decide) (k' := 0) (n' := 0) rfl rfl (by rw [hml]; rfl) [(.ref o0)] rfl (hb hby d7_30) (pc' := 33) rfl (rm8_1 l Z a0 hw o0 h0 n0 ra rb rt ((rb, Own.ArrC Z .long [(jJ 0), (jJ 0), (jJ 0), (jJ 0), (jJ 0), (jJ 0), (jJ 0), (jJ 0), (jJ 0), (jJ 0), (jJ 0), (jJ 0), (jJ 0), (jJ 0), (jJ 0), (jJ 0)]) :: (rt, Own.ArrC Z (.object "java/math/BigDecimal") [.null, .null, .null, .null, .null, .null, .null, .null, .null, .null, .null, .null, .null, .null, .null, .null]) :: fr) O0) ?_
  rintro _ h' ⟨rfl, eh⟩
  rw [eh]; clear eh h'
  show Own.Goes _ _ _ _ _ _ _ _ _ _ _ _ _ _ _ _ _ (mkF m 33 #[.val (.ref o0), .val (.long (1 : Int64)), .second, .val .null] [])
  refine Own.aloadN hx (.ref o0) (hb hby d7_33) rfl rfl rfl ?_
  refine Own.getfield hx hZ hown O0 0 1 rfl rfl (hw _ (wm 23 rfl)) (hb hby d7_34) rfl ?_
  refine Own.aloadN hx (.ref o0) (hb hby d7_37) rfl rfl rfl ?_
  refine Own.getfield hx hZ hown O0 0 6 rfl rfl (hw _ (wm 68 rfl)) (hb hby d7_38) rfl ?_
  refine Own.aloadN hx (.ref o0) (hb hby d7_41) rfl rfl rfl ?_
  refine Own.getfield hx hZ hown O0 0 5 rfl rfl (hw _ (wm 62 rfl)) (hb hby d7_42) rfl ?_
  refine Own.iadd hx (hb hby d7_45) rfl ?_
  refine Own.vI (1 : Int32) (by decide) ?_
  refine Own.lloadN hx (1 : Int64) (hb hby d7_46) rfl rfl ?_
  refine Own.lastore hx hZ O0 2 1 rfl (by decide) (by exact (show 1 < 16 by decide)) ((o0, OPo Z (.ref ra) (.ref rb) (iI (-1)) (iI (-1)) (.ref rt) (iI 1) (iI 0)) :: (ra, Own.ArrC Z .long [(jJ 0), (jJ 0), (jJ 0), (jJ 0), (jJ 0), (jJ 0), (jJ 0), (jJ 0), (jJ 0), (jJ 0), (jJ 0), (jJ 0), (jJ 0), (jJ 0), (jJ 0), (jJ 0)]) :: (rb, Own.ArrC Z .long [(jJ 0), (jJ 1), (jJ 0), (jJ 0), (jJ 0), (jJ 0), (jJ 0), (jJ 0), (jJ 0), (jJ 0), (jJ 0), (jJ 0), (jJ 0), (jJ 0), (jJ 0), (jJ 0)]) :: (rt, Own.ArrC Z (.object "java/math/BigDecimal") [.null, .null, .null, .null, .null, .null, .null, .null, .null, .null, .null, .null, .null, .null, .null, .null]) :: fr) rfl (hb hby d7_47) rfl ?_
  intro h5 O6
  refine Own.aloadN hx (.ref o0) (hb hby d7_48) rfl rfl rfl ?_
  refine Own.getfield hx hZ hown O6 0 4 rfl rfl (hw _ (wm 31 rfl)) (hb hby d7_49) rfl ?_
  refine Own.aloadN hx (.ref o0) (hb hby d7_52) rfl rfl rfl ?_
  refine Own.getfield hx hZ hown O6 0 6 rfl rfl (hw _ (wm 68 rfl)) (hb hby d7_53) rfl ?_
  refine Own.aloadN hx (.ref o0) (hb hby d7_56) rfl rfl rfl ?_
  refine Own.getfield hx hZ hown O6 0 5 rfl rfl (hw _ (wm 62 rfl)) (hb hby d7_57) rfl ?_
  refine Own.iadd hx (hb hby d7_60) rfl ?_
  refine Own.vI (1 : Int32) (by decide) ?_
  refine Own.aloadN hx .null (hb hby d7_61) rfl rfl rfl ?_
  refine Own.aastoreN hx hZ O6 3 1 rfl (by decide) (by exact (show 1 < 16 by decide)) ((o0, OPo Z (.ref ra) (.ref rb) (iI (-1)) (iI (-1)) (.ref rt) (iI 1) (iI 0)) :: (ra, Own.ArrC Z .long [(jJ 0), (jJ 0), (jJ 0), (jJ 0), (jJ 0), (jJ 0), (jJ 0), (jJ 0), (jJ 0), (jJ 0), (jJ 0), (jJ 0), (jJ 0), (jJ 0), (jJ 0), (jJ 0)]) :: (rb, Own.ArrC Z .long [(jJ 0), (jJ 1), (jJ 0), (jJ 0), (jJ 0), (jJ 0), (jJ 0), (jJ 0), (jJ 0), (jJ 0), (jJ 0), (jJ 0), (jJ 0), (jJ 0), (jJ 0), (jJ 0)]) :: (rt, Own.ArrC Z (.object "java/math/BigDecimal") [.null, .null, .null, .null, .null, .null, .null, .null, .null, .null, .null, .null, .null, .null, .null, .null]) :: fr) rfl (hb hby d7_62) rfl ?_
  intro h7 O8
  refine Own.aloadN hx (.ref o0) (hb hby d7_63) rfl rfl rfl ?_
  refine Own.getfield hx hZ hown O8 0 0 rfl rfl (hw _ (wm 21 rfl)) (hb hby d7_64) rfl ?_
  refine Own.aloadN hx (.ref o0) (hb hby d7_67) rfl rfl rfl ?_
  refine Own.getfield hx hZ hown O8 0 6 rfl rfl (hw _ (wm 68 rfl)) (hb hby d7_68) rfl ?_
  refine Own.aloadN hx (.ref o0) (hb hby d7_71) rfl rfl rfl ?_
  refine Own.dup hx (hb hby d7_72) rfl rfl ?_
  refine Own.getfield hx hZ hown O8 0 5 rfl rfl (hw _ (wm 62 rfl)) (hb hby d7_73) rfl ?_
  refine Own.dupX1 hx (hb hby d7_76) rfl rfl rfl ?_
  refine Own.iconst hx (1 : Int32) (hb hby d7_77) rfl (by decide) ?_
  refine Own.iadd hx (hb hby d7_78) rfl ?_
  refine Own.vI (2 : Int32) (by decide) ?_
  refine Own.putfield hx hZ hown O8 0 5 rfl rfl (hw _ (wm 62 rfl)) (Or.inl (hw _ (wm 63 rfl))) (hw _ (wm 15 rfl)) (ty := .int) (by decide) rfl rfl ((o0, OPo Z (.ref ra) (.ref rb) (iI (-1)) (iI (-1)) (.ref rt) (iI 2) (iI 0)) :: (ra, Own.ArrC Z .long [(jJ 0), (jJ 0), (jJ 0), (jJ 0), (jJ 0), (jJ 0), (jJ 0), (jJ 0), (jJ 0), (jJ 0), (jJ 0), (jJ 0), (jJ 0), (jJ 0), (jJ 0), (jJ 0)]) :: (rb, Own.ArrC Z .long [(jJ 0), (jJ 1), (jJ 0), (jJ 0), (jJ 0), (jJ 0), (jJ 0), (jJ 0), (jJ 0), (jJ 0), (jJ 0), (jJ 0), (jJ 0), (jJ 0), (jJ 0), (jJ 0)]) :: (rt, Own.ArrC Z (.object "java/math/BigDecimal") [.null, .null, .null, .null, .null, .null, .null, .null, .null, .null, .null, .null, .null, .null, .null, .null]) :: fr) rfl (hb hby d7_79) rfl ?_
  intro h9 O10
  refine Own.iadd hx (hb hby d7_82) rfl ?_
  refine Own.vI (1 : Int32) (by decide) ?_
  refine Own.lloadN hx (1 : Int64) (hb hby d7_83) rfl rfl ?_
  refine Own.lastore hx hZ O10 1 1 rfl (by decide) (by exact (show 1 < 16 by decide)) ((o0, OPo Z (.ref ra) (.ref rb) (iI (-1)) (iI (-1)) (.ref rt) (iI 2) (iI 0)) :: (ra, Own.ArrC Z .long [(jJ 0), (jJ 1), (jJ 0), (jJ 0), (jJ 0), (jJ 0), (jJ 0), (jJ 0), (jJ 0), (jJ 0), (jJ 0), (jJ 0), (jJ 0), (jJ 0), (jJ 0), (jJ 0)]) :: (rb, Own.ArrC Z .long [(jJ 0), (jJ 1), (jJ 0), (jJ 0), (jJ 0), (jJ 0), (jJ 0), (jJ 0), (jJ 0), (jJ 0), (jJ 0), (jJ 0), (jJ 0), (jJ 0), (jJ 0), (jJ 0)]) :: (rt, Own.ArrC Z (.object "java/math/BigDecimal") [.null, .null, .null, .null, .null, .null, .null, .null, .null, .null, .null, .null, .null, .null, .null, .null]) :: fr) rfl (hb hby d7_84) rfl ?_
  intro h11 O12
  exact Own.retV hx hret hlk (hb hby d7_85) (by decide) (by decide) ⟨rfl, O12⟩

theorem ef8_2 (m : MethodId) (x0 : Addr) : entryFrame m #[(.ref x0)] 1 = mkF m 0 #[.val (.ref x0)] [] := by first | (simp [entryFrame, mkF, argsToLocals, Value.category]; done) | rfl
set_option maxRecDepth 65536 in
set_option maxHeartbeats 40000000 in
theorem rm8_2 (l : Launch) (Z : State) (a0 : Array Value) (hw : ∀ d ∈ tables_1, d.before a0 Z = true) (o0 : Addr) (h0 : Heap) (n0 : Nat) (ra rb rt : Addr) (fr : List (Addr × (Cell → Prop))) (O0 : Own.Owns n0 h0 ((o0, OPo Z (.ref ra) (.ref rb) (iI (-1)) (iI (-1)) (.ref rt) (iI 2) (iI 0)) :: (ra, Own.ArrC Z .long [(jJ 0), (jJ 1), (jJ 0), (jJ 0), (jJ 0), (jJ 0), (jJ 0), (jJ 0), (jJ 0), (jJ 0), (jJ 0), (jJ 0), (jJ 0), (jJ 0), (jJ 0), (jJ 0)]) :: fr))  : Own.Does l (⟨"com/example/tracewarden/tracewarden/monitor/Openings", "makeRoom", "()V"⟩ : MethodName) prog_92_method_10_code 1 none [] ({ frames := 0, cells := 0, slots := 0, locals := 0 } : Room) Z #[(.ref o0)] h0 n0 (fun v h => v = none ∧ h = h0) := by
  refine Own.doesOf pn3 ?_
  intro p e s m below meth c hx hby hml hret hlk hown hnm hZ
  refine Own.Goes.cast (ef8_2 m o0) ?_
  refine Own.aloadN hx (.ref o0) (hb hby d8_0) rfl rfl rfl ?_
  refine Own.getfield hx hZ hown O0 0 6 rfl rfl (hw _ (wm 68 rfl)) (hb hby d8_1) rfl ?_
  refine Own.aloadN hx (.ref o0) (hb hby d8_4) rfl rfl rfl ?_
  refine Own.getfield hx hZ hown O0 0 5 rfl rfl (hw _ (wm 62 rfl)) (hb hby d8_5) rfl ?_
  refine Own.iadd hx (hb hby d8_8) rfl ?_
  refine Own.vI (2 : Int32) (by decide) ?_
  refine Own.aloadN hx (.ref o0) (hb hby d8_9) rfl rfl rfl ?_
  refine Own.getfield hx hZ hown O0 0 0 rfl rfl (hw _ (wm 21 rfl)) (hb hby d8_10) rfl ?_
  refine Own.arrlen hx hZ O0 1 rfl (16 : Int32) rfl (hb hby d8_13) rfl ?_
  have hc1 : ¬ ((2 : Int32) = (16 : Int32)) := by decide
  refine Own.icmpFn hx (Own.q_ne (2 : Int32) (16 : Int32)) (hb hby d8_14) (pcN := 17) rfl (by decide) (pcT := 99) rfl (fun _ => ?_) (fun q => absurd q hc1)
  exact Own.retV hx hret hlk (hb hby d8_99) (by decide) (by decide) ⟨rfl, rfl⟩

theorem ef7_2 (m : MethodId) (x0 : Addr) (x1 : Int64) : entryFrame m #[(.ref x0), (.long x1), .null] 4 = mkF m 0 #[.val (.ref x0), .val (.long x1), .second, .val .null] [] := by first | (simp [entryFrame, mkF, argsToLocals, Value.category]; done) | rfl
set_option maxRecDepth 65536 in
set_option maxHeartbeats 40000000 in
theorem rm7_2 (l : Launch) (Z : State) (a0 : Array Value) (hw : ∀ d ∈ tables_1, d.before a0 Z = true) (o0 : Addr) (h0 : Heap) (n0 : Nat) (ra rb rt : Addr) (fr : List (Addr × (Cell → Prop))) (O0 : Own.Owns n0 h0 ((o0, OPo Z (.ref ra) (.ref rb) (iI (-1)) (iI (-1)) (.ref rt) (iI 2) (iI 0)) :: (ra, Own.ArrC Z .long [(jJ 0), (jJ 1), (jJ 0), (jJ 0), (jJ 0), (jJ 0), (jJ 0), (jJ 0), (jJ 0), (jJ 0), (jJ 0), (jJ 0), (jJ 0), (jJ 0), (jJ 0), (jJ 0)]) :: (rb, Own.ArrC Z .long [(jJ 0), (jJ 1), (jJ 0), (jJ 0), (jJ 0), (jJ 0), (jJ 0), (jJ 0), (jJ 0), (jJ 0), (jJ 0), (jJ 0), (jJ 0), (jJ 0), (jJ 0), (jJ 0)]) :: (rt, Own.ArrC Z (.object "java/math/BigDecimal") [.null, .null, .null, .null, .null, .null, .null, .null, .null, .null, .null, .null, .null, .null, .null, .null]) :: fr))  : Own.Does l (⟨"com/example/tracewarden/tracewarden/monitor/Openings", "add", "(JLjava/math/BigDecimal;)V"⟩ : MethodName) prog_92_method_9_code 4 none [] ({ frames := 1, cells := 0, slots := 0, locals := 12 } : Room) Z #[(.ref o0), (.long (2 : Int64)), .null] h0 n0 (fun v h => v = none ∧ Own.Owns n0 h ((o0, OPo Z (.ref ra) (.ref rb) (iI (-1)) (iI (-1)) (.ref rt) (iI 3) (iI 0)) :: (ra, Own.ArrC Z .long [(jJ 0), (jJ 1), (jJ 2), (jJ 0), (jJ 0), (jJ 0), (jJ 0), (jJ 0), (jJ 0), (jJ 0), (jJ 0), (jJ 0), (jJ 0), (jJ 0), (jJ 0), (jJ 0)]) :: (rb, Own.ArrC Z .long [(jJ 0), (jJ 1), (jJ 2), (jJ 0), (jJ 0), (jJ 0), (jJ 0), (jJ 0), (jJ 0), (jJ 0), (jJ 0), (jJ 0), (jJ 0), (jJ 0), (jJ 0), (jJ 0)]) :: (rt, Own.ArrC Z (.object "java/math/BigDecimal") [.null, .null, .null, .null, .null, .null, .null, .null, .null, .null, .null, .null, .null, .null, .null, .null]) :: fr)) := by
  refine Own.doesOf pn4 ?_
  intro p e s m below meth c hx hby hml hret hlk hown hnm hZ
  refine Own.Goes.cast (ef7_2 m o0 (2 : Int64)) ?_
  refine Own.aloadN hx (.ref o0) (hb hby d7_0) rfl rfl rfl ?_
  refine Own.getfield hx hZ hown O0 0 5 rfl rfl (hw _ (wm 62 rfl)) (hb hby d7_1) rfl ?_
  have hc1 : (0 : Int32) < (2 : Int32) := by decide
  refine Own.ifFn hx (Own.z_le (2 : Int32)) (hb hby d7_4) (pcN := 7) rfl (by decide) (pcT := 29) rfl (fun q => absurd hc1 q) (fun _ => ?_)
  refine Own.aloadN hx (.ref o0) (hb hby d7_7) rfl rfl rfl ?_
  refine Own.getfield hx hZ hown O0 0 0 rfl rfl (hw _ (wm 21 rfl)) (hb hby d7_8) rfl ?_
  refine Own.aloadN hx (.ref o0) (hb hby d7_11) rfl rfl rfl ?_
  refine Own.getfield hx hZ hown O0 0 6 rfl rfl (hw _ (wm 68 rfl)) (hb hby d7_12) rfl ?_
  refine Own.aloadN hx (.ref o0) (hb hby d7_15) rfl rfl rfl ?_
  refine Own.getfield hx hZ hown O0 0 5 rfl rfl (hw _ (wm 62 rfl)) (hb hby d7_16) rfl ?_
  refine Own.iadd hx (hb hby d7_19) rfl ?_
  refine Own.vI (2 : Int32) (by decide) ?_
  refine Own.iconst hx (1 : Int32) (hb hby d7_20) rfl (by decide) ?_
  refine Own.isub hx (hb hby d7_21) rfl ?_
  refine Own.vI (1 : Int32) (by decide) ?_
  refine Own.laload hx hZ O0 1 1 rfl (by decide) (v := (.long (1 : Int64))) rfl (hb hby d7_22) rfl ?_
  refine Own.lloadN hx (2 : Int64) (hb hby d7_23) rfl rfl ?_
  refine Own.lcmp hx (hb hby d7_24) rfl ?_
  have hc3 : ¬ ((1 : Int64) = (2 : Int64)) := by decide
  refine Own.ifFn hx (Own.w_ne (1 : Int64) (2 : Int64)) (hb hby d7_25) (pcN := 28) rfl (by decide) (pcT := 29) rfl (fun _ => ?_) (fun q => absurd q hc3)
  refine Own.aloadN hx (.ref o0) (hb hby d7_29) rfl rfl rfl ?_
  refine Own.callP hx hZ hown (O0.exa (i := 0) rfl) (hw _ (wm 64 rfl)) (hw _ (wm 65 rfl)) (hw _ (wm 15 rfl)) (hw _ (wm 66 rfl)) (hw _ (wm 12 rfl)) (hw _ (wm 67 rfl)) (by decide) pd0 (argsL := []) (rest := []) rfl (W := 0) (Nat.le_of_eq rfl) (rm := ({ frames := 0, cells := 0, slots := 0, locals := 0 } : Room)) (by decide) (by decide) (by decide) (by decide) (k' := 0) (n' := 0) rfl rfl (by rw [hml]; rfl) [(.ref o0)] rfl (hb hby d7_30) (pc' := 33) rfl (rm8_2 l Z a0 hw o0 h0 n0 ra rb rt ((rb, Own.ArrC Z .long [(jJ 0), (jJ 1), (jJ 0), (jJ 0), (jJ 0), (jJ 0), (jJ 0), (jJ 0), (jJ 0), (jJ 0), (jJ 0), (jJ 0), (jJ 0), (jJ 0), (jJ 0), (jJ 0)]) :: (rt, Own.ArrC Z (.object "java/math/BigDecimal") [.null, .null, .null, .null, .null, .null, .null, .null, .null, .null, .null, .null, .null, .null, .null, .null]) :: fr) O0) ?_
  rintro _ h' ⟨rfl, eh⟩
  rw [eh]; clear eh h'
  show Own.Goes _ _ _ _ _ _ _ _ _ _ _ _ _ _ _ _ _ (mkF m 33 #[.val (.ref o0), .val (.long (2 : Int64)), .second, .val .null] [])
  refine Own.aloadN hx (.ref o0) (hb hby d7_33) rfl rfl rfl ?_
  refine Own.getfield hx hZ hown O0 0 1 rfl rfl (hw _ (wm 23 rfl)) (hb hby d7_34) rfl ?_
  refine Own.aloadN hx (.ref o0) (hb hby d7_37) rfl rfl rfl ?_
  refine Own.getfield hx hZ hown O0 0 6 rfl rfl (hw _ (wm 68 rfl)) (hb hby d7_38) rfl ?_
  refine Own.aloadN hx (.ref o0) (hb hby d7_41) rfl rfl rfl ?_
  refine Own.getfield hx hZ hown O0 0 5 rfl rfl (hw _ (wm 62 rfl)) (hb hby d7_42) rfl ?_
  refine Own.iadd hx (hb hby d7_45) rfl ?_
  refine Own.vI (2 : Int32) (by decide) ?_
  refine Own.lloadN hx (2 : Int64) (hb hby d7_46) rfl rfl ?_
  refine Own.lastore hx hZ O0 2 2 rfl (by decide) (by exact (show 2 < 16 by decide)) ((o0, OPo Z (.ref ra) (.ref rb) (iI (-1)) (iI (-1)) (.ref rt) (iI 2) (iI 0)) :: (ra, Own.ArrC Z .long [(jJ 0), (jJ 1), (jJ 0), (jJ 0), (jJ 0), (jJ 0), (jJ 0), (jJ 0), (jJ 0), (jJ 0), (jJ 0), (jJ 0), (jJ 0), (jJ 0), (jJ 0), (jJ 0)]) :: (rb, Own.ArrC Z .long [(jJ 0), (jJ 1), (jJ 2), (jJ 0), (jJ 0), (jJ 0), (jJ 0), (jJ 0), (jJ 0), (jJ 0), (jJ 0), (jJ 0), (jJ 0), (jJ 0), (jJ 0), (jJ 0)]) :: (rt, Own.ArrC Z (.object "java/math/BigDecimal") [.null, .null, .null, .null, .null, .null, .null, .null, .null, .null, .null, .null, .null, .null, .null, .null]) :: fr) rfl (hb hby d7_47) rfl ?_
  intro h5 O6
  refine Own.aloadN hx (.ref o0) (hb hby d7_48) rfl rfl rfl ?_
  refine Own.getfield hx hZ hown O6 0 4 rfl rfl (hw _ (wm 31 rfl)) (hb hby d7_49) rfl ?_
  refine Own.aloadN hx (.ref o0) (hb hby d7_52) rfl rfl rfl ?_
  refine Own.getfield hx hZ hown O6 0 6 rfl rfl (hw _ (wm 68 rfl)) (hb hby d7_53) rfl ?_
  refine Own.aloadN hx (.ref o0) (hb hby d7_56) rfl rfl rfl ?_
  refine Own.getfield hx hZ hown O6 0 5 rfl rfl (hw _ (wm 62 rfl)) (hb hby d7_57) rfl ?_
  refine Own.iadd hx (hb hby d7_60) rfl ?_
  refine Own.vI (2 : Int32) (by decide) ?_
  refine Own.aloadN hx .null (hb hby d7_61) rfl rfl rfl ?_
  refine Own.aastoreN hx hZ O6 3 2 rfl (by decide) (by exact (show 2 < 16 by decide)) ((o0, OPo Z (.ref ra) (.ref rb) (iI (-1)) (iI (-1)) (.ref rt) (iI 2) (iI 0)) :: (ra, Own.ArrC Z .long [(jJ 0), (jJ 1), (jJ 0), (jJ 0), (jJ 0), (jJ 0), (jJ 0), (jJ 0), (jJ 0), (jJ 0), (jJ 0), (jJ 0), (jJ 0), (jJ 0), (jJ 0), (jJ 0)]) :: (rb, Own.ArrC Z .long [(jJ 0), (jJ 1), (jJ 2), (jJ 0), (jJ 0), (jJ 0), (jJ 0), (jJ 0), (jJ 0), (jJ 0), (jJ 0), (jJ 0), (jJ 0), (jJ 0), (jJ 0), (jJ 0)]) :: (rt, Own.ArrC Z (.object "java/math/BigDecimal") [.null, .null, .null, .null, .null, .null, .null, .null, .null, .null, .null, .null, .null, .null, .null, .null]) :: fr) rfl (hb hby d7_62) rfl ?_
  intro h7 O8
  refine Own.aloadN hx (.ref o0) (hb hby d7_63) rfl rfl rfl ?_
  refine Own.getfield hx hZ hown O8 0 0 rfl rfl (hw _ (wm 21 rfl)) (hb hby d7_64) rfl ?_
  refine Own.aloadN hx (.ref o0) (hb hby d7_67) rfl rfl rfl ?_
  refine Own.getfield hx hZ hown O8 0 6 rfl rfl (hw _ (wm 68 rfl)) (hb hby d7_68) rfl ?_
  refine Own.aloadN hx (.ref o0) (hb hby d7_71) rfl rfl rfl ?_
  refine Own.dup hx (hb hby d7_72) rfl rfl ?_
  refine Own.getfield hx hZ hown O8 0 5 rfl rfl (hw _ (wm 62 rfl)) (hb hby d7_73) rfl ?_
  refine Own.dupX1 hx (hb hby d7_76) rfl rfl rfl ?_
  refine Own.iconst hx (1 : Int32) (hb hby d7_77) rfl (by decide) ?_
  refine Own.iadd hx (hb hby d7_78) rfl ?_
  refine Own.vI (3 : Int32) (by decide) ?_
  refine Own.putfield hx hZ hown O8 0 5 rfl rfl (hw _ (wm 62 rfl)) (Or.inl (hw _ (wm 63 rfl))) (hw _ (wm 15 rfl)) (ty := .int) (by decide) rfl rfl ((o0, OPo Z (.ref ra) (.ref rb) (iI (-1)) (iI (-1)) (.ref rt) (iI 3) (iI 0)) :: (ra, Own.ArrC Z .long [(jJ 0), (jJ 1), (jJ 0), (jJ 0), (jJ 0), (jJ 0), (jJ 0), (jJ 0), (jJ 0), (jJ 0), (jJ 0), (jJ 0), (jJ 0), (jJ 0), (jJ 0), (jJ 0)]) :: (rb, Own.ArrC Z .long [(jJ 0), (jJ 1), (jJ 2), (jJ 0), (jJ 0), (jJ 0), (jJ 0), (jJ 0), (jJ 0), (jJ 0), (jJ 0), (jJ 0), (jJ 0), (jJ 0), (jJ 0), (jJ 0)]) :: (rt, Own.ArrC Z (.object "java/math/BigDecimal") [.null, .null, .null, .null, .null, .null, .null, .null, .null, .null, .null, .null, .null, .null, .null, .null]) :: fr) rfl (hb hby d7_79) rfl ?_
  intro h9 O10
  refine Own.iadd hx (hb hby d7_82) rfl ?_
  refine Own.vI (2 : Int32) (by decide) ?_
  refine Own.lloadN hx (2 : Int64) (hb hby d7_83) rfl rfl ?_
  refine Own.lastore hx hZ O10 1 2 rfl (by decide) (by exact (show 2 < 16 by decide)) ((o0, OPo Z (.ref ra) (.ref rb) (iI (-1)) (iI (-1)) (.ref rt) (iI 3) (iI 0)) :: (ra, Own.ArrC Z .long [(jJ 0), (jJ 1), (jJ 2), (jJ 0), (jJ 0), (jJ 0), (jJ 0), (jJ 0), (jJ 0), (jJ 0), (jJ 0), (jJ 0), (jJ 0), (jJ 0), (jJ 0), (jJ 0)]) :: (rb, Own.ArrC Z .long [(jJ 0), (jJ 1), (jJ 2), (jJ 0), (jJ 0), (jJ 0), (jJ 0), (jJ 0), (jJ 0), (jJ 0), (jJ 0), (jJ 0), (jJ 0), (jJ 0), (jJ 0), (jJ 0)]) :: (rt, Own.ArrC Z (.object "java/math/BigDecimal") [.null, .null, .null, .null, .null, .null, .null, .null, .null, .null, .null, .null, .null, .null, .null, .null]) :: fr) rfl (hb hby d7_84) rfl ?_
  intro h11 O12
  exact Own.retV hx hret hlk (hb hby d7_85) (by decide) (by decide) ⟨rfl, O12⟩

theorem ef8_3 (m : MethodId) (x0 : Addr) : entryFrame m #[(.ref x0)] 1 = mkF m 0 #[.val (.ref x0)] [] := by first | (simp [entryFrame, mkF, argsToLocals, Value.category]; done) | rfl
set_option maxRecDepth 65536 in
set_option maxHeartbeats 40000000 in
theorem rm8_3 (l : Launch) (Z : State) (a0 : Array Value) (hw : ∀ d ∈ tables_1, d.before a0 Z = true) (o0 : Addr) (h0 : Heap) (n0 : Nat) (ra rb rt : Addr) (fr : List (Addr × (Cell → Prop))) (O0 : Own.Owns n0 h0 ((o0, OPo Z (.ref ra) (.ref rb) (iI (-1)) (iI (-1)) (.ref rt) (iI 3) (iI 0)) :: (ra, Own.ArrC Z .long [(jJ 0), (jJ 1), (jJ 2), (jJ 0), (jJ 0), (jJ 0), (jJ 0), (jJ 0), (jJ 0), (jJ 0), (jJ 0), (jJ 0), (jJ 0), (jJ 0), (jJ 0), (jJ 0)]) :: fr))  : Own.Does l (⟨"com/example/tracewarden/tracewarden/monitor/Openings", "makeRoom", "()V"⟩ : MethodName) prog_92_method_10_code 1 none [] ({ frames := 0, cells := 0, slots := 0, locals := 0 } : Room) Z #[(.ref o0)] h0 n0 (fun v h => v = none ∧ h = h0) := by
  refine Own.doesOf pn3 ?_
  intro p e s m below meth c hx hby hml hret hlk hown hnm hZ
  refine Own.Goes.cast (ef8_3 m o0) ?_
  refine Own.aloadN hx (.ref o0) (hb hby d8_0) rfl rfl rfl ?_
  refine Own.getfield hx hZ hown O0 0 6 rfl rfl (hw _ (wm 68 rfl)) (hb hby d8_1) rfl ?_
  refine Own.aloadN hx (.ref o0) (hb hby d8_4) rfl rfl rfl ?_
  refine Own.getfield hx hZ hown O0 0 5 rfl rfl (hw _ (wm 62 rfl)) (hb hby d8_5) rfl ?_
  refine Own.iadd hx (hb hby d8_8) rfl ?_
  refine Own.vI (3 : Int32) (by decide) ?_
  refine Own.aloadN hx (.ref o0) (hb hby d8_9) rfl rfl rfl ?_
  refine Own.getfield hx hZ hown O0 0 0 rfl rfl (hw _ (wm 21 rfl)) (hb hby d8_10) rfl ?_
  refine Own.arrlen hx hZ O0 1 rfl (16 : Int32) rfl (hb hby d8_13) rfl ?_
  have hc1 : ¬ ((3 : Int32) = (16 : Int32)) := by decide
  refine Own.icmpFn hx (Own.q_ne (3 : Int32) (16 : Int32)) (hb hby d8_14) (pcN := 17) rfl (by decide) (pcT := 99) rfl (fun _ => ?_) (fun q => absurd q hc1)
  exact Own.retV hx hret hlk (hb hby d8_99) (by decide) (by decide) ⟨rfl, rfl⟩

theorem ef7_3 (m : MethodId) (x0 : Addr) (x1 : Int64) : entryFrame m #[(.ref x0), (.long x1), .null] 4 = mkF m 0 #[.val (.ref x0), .val (.long x1), .second, .val .null] [] := by first | (simp [entryFrame, mkF, argsToLocals, Value.category]; done) | rfl
set_option maxRecDepth 65536 in
set_option maxHeartbeats 40000000 in
theorem rm7_3 (l : Launch) (Z : State) (a0 : Array Value) (hw : ∀ d ∈ tables_1, d.before a0 Z = true) (o0 : Addr) (h0 : Heap) (n0 : Nat) (ra rb rt : Addr) (fr : List (Addr × (Cell → Prop))) (O0 : Own.Owns n0 h0 ((o0, OPo Z (.ref ra) (.ref rb) (iI (-1)) (iI (-1)) (.ref rt) (iI 3) (iI 0)) :: (ra, Own.ArrC Z .long [(jJ 0), (jJ 1), (jJ 2), (jJ 0), (jJ 0), (jJ 0), (jJ 0), (jJ 0), (jJ 0), (jJ 0), (jJ 0), (jJ 0), (jJ 0), (jJ 0), (jJ 0), (jJ 0)]) :: (rb, Own.ArrC Z .long [(jJ 0), (jJ 1), (jJ 2), (jJ 0), (jJ 0), (jJ 0), (jJ 0), (jJ 0), (jJ 0), (jJ 0), (jJ 0), (jJ 0), (jJ 0), (jJ 0), (jJ 0), (jJ 0)]) :: (rt, Own.ArrC Z (.object "java/math/BigDecimal") [.null, .null, .null, .null, .null, .null, .null, .null, .null, .null, .null, .null, .null, .null, .null, .null]) :: fr))  : Own.Does l (⟨"com/example/tracewarden/tracewarden/monitor/Openings", "add", "(JLjava/math/BigDecimal;)V"⟩ : MethodName) prog_92_method_9_code 4 none [] ({ frames := 1, cells := 0, slots := 0, locals := 12 } : Room) Z #[(.ref o0), (.long (3 : Int64)), .null] h0 n0 (fun v h => v = none ∧ Own.Owns n0 h ((o0, OPo Z (.ref ra) (.ref rb) (iI (-1)) (iI (-1)) (.ref rt) (iI 4) (iI 0)) :: (ra, Own.ArrC Z .long [(jJ 0), (jJ 1), (jJ 2), (jJ 3), (jJ 0), (jJ 0), (jJ 0), (jJ 0), (jJ 0), (jJ 0), (jJ 0), (jJ 0), (jJ 0), (jJ 0), (jJ 0), (jJ 0)]) :: (rb, Own.ArrC Z .long [(jJ 0), (jJ 1), (jJ 2), (jJ 3), (jJ 0), (jJ 0), (jJ 0), (jJ 0), (jJ 0), (jJ 0), (jJ 0), (jJ 0), (jJ 0), (jJ 0), (jJ 0), (jJ 0)]) :: (rt, Own.ArrC Z (.object "java/math/BigDecimal") [.null, .null, .null, .null, .null, .null, .null, .null, .null, .null, .null, .null, .null, .null, .null, .null]) :: fr)) := by
  refine Own.doesOf pn4 ?_
  intro p e s m below meth c hx hby hml hret hlk hown hnm hZ
  refine Own.Goes.cast (ef7_3 m o0 (3 : Int64)) ?_
  refine Own.aloadN hx (.ref o0) (hb hby d7_0) rfl rfl rfl ?_
  refine Own.getfield hx hZ hown O0 0 5 rfl rfl (hw _ (wm 62 rfl)) (hb hby d7_1) rfl ?_
  have hc1 : (0 : Int32) < (3 : Int32) := by decide
  refine Own.ifFn hx (Own.z_le (3 : Int32)) (hb hby d7_4) (pcN := 7) rfl (by decide) (pcT := 29) rfl (fun q => absurd hc1 q) (fun _ => ?_)
  refine Own.aloadN hx (.ref o0) (hb hby d7_7) rfl rfl rfl ?_
  refine Own.getfield hx hZ hown O0 0 0 rfl rfl (hw _ (wm 21 rfl)) (hb hby d7_8) rfl ?_
  refine Own.aloadN hx (.ref o0) (hb hby d7_11) rfl rfl rfl ?_
  refine Own.getfield hx hZ hown O0 0 6 rfl rfl (hw _ (wm 68 rfl)) (hb hby d7_12) rfl ?_
  refine Own.aloadN hx (.ref o0) (hb hby d7_15) rfl rfl rfl ?_
  refine Own.getfield hx hZ hown O0 0 5 rfl rfl (hw _ (wm 62 rfl)) (hb hby d7_16) rfl ?_
  refine Own.iadd hx (hb hby d7_19) rfl ?_
  refine Own.vI (3 : Int32) (by decide) ?_
  refine Own.iconst hx (1 : Int32) (hb hby d7_20) rfl (by decide) ?_
  refine Own.isub hx (hb hby d7_21) rfl ?_
  refine Own.vI (2 : Int32) (by decide) ?_
  refine Own.laload hx hZ O0 1 2 rfl (by decide) (v := (.long (2 : Int64))) rfl (hb hby d7_22) rfl ?_
  refine Own.lloadN hx (3 : Int64) (hb hby d7_23) rfl rfl ?_
  refine Own.lcmp hx (hb hby d7_24) rfl ?_
  have hc3 : ¬ ((2 : Int64) = (3 : Int64)) := by decide
  refine Own.ifFn hx (Own.w_ne (2 : Int64) (3 : Int64)) (hb hby d7_25) (pcN := 28) rfl (by decide) (pcT := 29) rfl (fun _ => ?_) (fun q => absurd q hc3)
  refine Own.aloadN hx (.ref o0) (hb hby d7_29) rfl rfl rfl ?_
  refine Own.callP hx hZ hown (O0.exa (i := 0) rfl) (hw _ (wm 64 rfl)) (hw _ (wm 65 rfl)) (hw _ (wm 15 rfl)) (hw _ (wm 66 rfl)) (hw _ (wm 12 rfl)) (hw _ (wm 67 rfl)) (by decide) pd0 (argsL := []) (rest := []) rfl (W := 0) (Nat.le_of_eq rfl) (rm := ({ frames := 0, cells := 0, slots := 0, locals := 0 } : Room)) (by decide) (by decide) (by decide) (by decide) (k' := 0) (n' := 0) rfl rfl (by rw [hml]; rfl) [(.ref o0)] rfl (hb hby d7_30) (pc' := 33) rfl (rm8_3 l Z a0 hw o0 h0 n0 ra rb rt ((rb, Own.ArrC Z .long [(jJ 0), (jJ 1), (jJ 2), (jJ 0), (jJ 0), (jJ 0), (jJ 0), (jJ 0), (jJ 0), (jJ 0), (jJ 0), (jJ 0), (jJ 0), (jJ 0), (jJ 0), (jJ 0)]) :: (rt, Own.ArrC Z (.object "java/math/BigDecimal") [.null, .null, .null, .null, .null, .null, .null, .null, .null, .null, .null, .null, .null, .null, .null, .null]) :: fr) O0) ?_
  rintro _ h' ⟨rfl, eh⟩
  rw [eh]; clear eh h'
  show Own.Goes _ _ _ _ _ _ _ _ _ _ _ _ _ _ _ _ _ (mkF m 33 #[.val (.ref o0), .val (.long (3 : Int64)), .second, .val .null] [])
  refine Own.aloadN hx (.ref o0) (hb hby d7_33) rfl rfl rfl ?_
  refine Own.getfield hx hZ hown O0 0 1 rfl rfl (hw _ (wm 23 rfl)) (hb hby d7_34) rfl ?_
  refine Own.aloadN hx (.ref o0) (hb hby d7_37) rfl rfl rfl ?_
  refine Own.getfield hx hZ hown O0 0 6 rfl rfl (hw _ (wm 68 rfl)) (hb hby d7_38) rfl ?_
  refine Own.aloadN hx (.ref o0) (hb hby d7_41) rfl rfl rfl ?_
  refine Own.getfield hx hZ hown O0 0 5 rfl rfl (hw _ (wm 62 rfl)) (hb hby d7_42) rfl ?_
  refine Own.iadd hx (hb hby d7_45) rfl ?_
  refine Own.vI (3 : Int32) (by decide) ?_
  refine Own.lloadN hx (3 : Int64) (hb hby d7_46) rfl rfl ?_
  refine Own.lastore hx hZ O0 2 3 rfl (by decide) (by exact (show 3 < 16 by decide)) ((o0, OPo Z (.ref ra) (.ref rb) (iI (-1)) (iI (-1)) (.ref rt) (iI 3) (iI 0)) :: (ra, Own.ArrC Z .long [(jJ 0), (jJ 1), (jJ 2), (jJ 0), (jJ 0), (jJ 0), (jJ 0), (jJ 0), (jJ 0), (jJ 0), (jJ 0), (jJ 0), (jJ 0), (jJ 0), (jJ 0), (jJ 0)]) :: (rb, Own.ArrC Z .long [(jJ 0), (jJ 1), (jJ 2), (jJ 3), (jJ 0), (jJ 0), (jJ 0), (jJ 0), (jJ 0), (jJ 0), (jJ 0), (jJ 0), (jJ 0), (jJ 0), (jJ 0), (jJ 0)]) :: (rt, Own.ArrC Z (.object "java/math/BigDecimal") [.null, .null, .null, .null, .null, .null, .null, .null, .null, .null, .null, .null, .null, .null, .null, .null]) :: fr) rfl (hb hby d7_47) rfl ?_
  intro h5 O6
  refine Own.aloadN hx (.ref o0) (hb hby d7_48) rfl rfl rfl ?_
  refine Own.getfield hx hZ hown O6 0 4 rfl rfl (hw _ (wm 31 rfl)) (hb hby d7_49) rfl ?_
  refine Own.aloadN hx (.ref o0) (hb hby d7_52) rfl rfl rfl ?_
  refine Own.getfield hx hZ hown O6 0 6 rfl rfl (hw _ (wm 68 rfl)) (hb hby d7_53) rfl ?_
  refine Own.aloadN hx (.ref o0) (hb hby d7_56) rfl rfl rfl ?_
  refine Own.getfield hx hZ hown O6 0 5 rfl rfl (hw _ (wm 62 rfl)) (hb hby d7_57) rfl ?_
  refine Own.iadd hx (hb hby d7_60) rfl ?_
  refine Own.vI (3 : Int32) (by decide) ?_
  refine Own.aloadN hx .null (hb hby d7_61) rfl rfl rfl ?_
  refine Own.aastoreN hx hZ O6 3 3 rfl (by decide) (by exact (show 3 < 16 by decide)) ((o0, OPo Z (.ref ra) (.ref rb) (iI (-1)) (iI (-1)) (.ref rt) (iI 3) (iI 0)) :: (ra, Own.ArrC Z .long [(jJ 0), (jJ 1), (jJ 2), (jJ 0), (jJ 0), (jJ 0), (jJ 0), (jJ 0), (jJ 0), (jJ 0), (jJ 0), (jJ 0), (jJ 0), (jJ 0), (jJ 0), (jJ 0)]) :: (rb, Own.ArrC Z .long [(jJ 0), (jJ 1), (jJ 2), (jJ 3), (jJ 0), (jJ 0), (jJ 0), (jJ 0), (jJ 0), (jJ 0), (jJ 0), (jJ 0), (jJ 0), (jJ 0), (jJ 0), (jJ 0)]) :: (rt, Own.ArrC Z (.object "java/math/BigDecimal") [.null, .null, .null, .null, .null, .null, .null, .null, .null, .null, .null, .null, .null, .null, .null, .null]) :: fr) rfl (hb hby d7_62) rfl ?_
  intro h7 O8
  refine Own.aloadN hx (.ref o0) (hb hby d7_63) rfl rfl rfl ?_
  refine Own.getfield hx hZ hown O8 0 0 rfl rfl (hw _ (wm 21 rfl)) (hb hby d7_64) rfl ?_
  refine Own.aloadN hx (.ref o0) (hb hby d7_67) rfl rfl rfl ?_
  refine Own.getfield hx hZ hown O8 0 6 rfl rfl (hw _ (wm 68 rfl)) (hb hby d7_68) rfl ?_
  refine Own.aloadN hx (.ref o0) (hb hby d7_71) rfl rfl rfl ?_
  refine Own.dup hx (hb hby d7_72) rfl rfl ?_
  refine Own.getfield hx hZ hown O8 0 5 rfl rfl (hw _ (wm 62 rfl)) (hb hby d7_73) rfl ?_
  refine Own.dupX1 hx (hb hby d7_76) rfl rfl rfl ?_
  refine Own.iconst hx (1 : Int32) (hb hby d7_77) rfl (by decide) ?_
  refine Own.iadd hx (hb hby d7_78) rfl ?_
  refine Own.vI (4 : Int32) (by decide) ?_
  refine Own.putfield hx hZ hown O8 0 5 rfl rfl (hw _ (wm 62 rfl)) (Or.inl (hw _ (wm 63 rfl))) (hw _ (wm 15 rfl)) (ty := .int) (by decide) rfl rfl ((o0, OPo Z (.ref ra) (.ref rb) (iI (-1)) (iI (-1)) (.ref rt) (iI 4) (iI 0)) :: (ra, Own.ArrC Z .long [(jJ 0), (jJ 1), (jJ 2), (jJ 0), (jJ 0), (jJ 0), (jJ 0), (jJ 0), (jJ 0), (jJ 0), (jJ 0), (jJ 0), (jJ 0), (jJ 0), (jJ 0), (jJ 0)]) :: (rb, Own.ArrC Z .long [(jJ 0), (jJ 1), (jJ 2), (jJ 3), (jJ 0), (jJ 0), (jJ 0), (jJ 0), (jJ 0), (jJ 0), (jJ 0), (jJ 0), (jJ 0), (jJ 0), (jJ 0), (jJ 0)]) :: (rt, Own.ArrC Z (.object "java/math/BigDecimal") [.null, .null, .null, .null, .null, .null, .null, .null, .null, .null, .null, .null, .null, .null, .null, .null]) :: fr) rfl (hb hby d7_79) rfl ?_
  intro h9 O10
  refine Own.iadd hx (hb hby d7_82) rfl ?_
  refine Own.vI (3 : Int32) (by decide) ?_
  refine Own.lloadN hx (3 : Int64) (hb hby d7_83) rfl rfl ?_
  refine Own.lastore hx hZ O10 1 3 rfl (by decide) (by exact (show 3 < 16 by decide)) ((o0, OPo Z (.ref ra) (.ref rb) (iI (-1)) (iI (-1)) (.ref rt) (iI 4) (iI 0)) :: (ra, Own.ArrC Z .long [(jJ 0), (jJ 1), (jJ 2), (jJ 3), (jJ 0), (jJ 0), (jJ 0), (jJ 0), (jJ 0), (jJ 0), (jJ 0), (jJ 0), (jJ 0), (jJ 0), (jJ 0), (jJ 0)]) :: (rb, Own.ArrC Z .long [(jJ 0), (jJ 1), (jJ 2), (jJ 3), (jJ 0), (jJ 0), (jJ 0), (jJ 0), (jJ 0), (jJ 0), (jJ 0), (jJ 0), (jJ 0), (jJ 0), (jJ 0), (jJ 0)]) :: (rt, Own.ArrC Z (.object "java/math/BigDecimal") [.null, .null, .null, .null, .null, .null, .null, .null, .null, .null, .null, .null, .null, .null, .null, .null]) :: fr) rfl (hb hby d7_84) rfl ?_
  intro h11 O12
  exact Own.retV hx hret hlk (hb hby d7_85) (by decide) (by decide) ⟨rfl, O12⟩

theorem ef8_4 (m : MethodId) (x0 : Addr) : entryFrame m #[(.ref x0)] 1 = mkF m 0 #[.val (.ref x0)] [] := by first | (simp [entryFrame, mkF, argsToLocals, Value.category]; done) | rfl
set_option maxRecDepth 65536 in
set_option maxHeartbeats 40000000 in
theorem rm8_4 (l : Launch) (Z : State) (a0 : Array Value) (hw : ∀ d ∈ tables_1, d.before a0 Z = true) (o0 : Addr) (h0 : Heap) (n0 : Nat) (ra rb rt : Addr) (fr : List (Addr × (Cell → Prop))) (O0 : Own.Owns n0 h0 ((o0, OPo Z (.ref ra) (.ref rb) (iI (-1)) (iI (-1)) (.ref rt) (iI 4) (iI 0)) :: (ra, Own.ArrC Z .long [(jJ 0), (jJ 1), (jJ 2), (jJ 3), (jJ 0), (jJ 0), (jJ 0), (jJ 0), (jJ 0), (jJ 0), (jJ 0), (jJ 0), (jJ 0), (jJ 0), (jJ 0), (jJ 0)]) :: fr))  : Own.Does l (⟨"com/example/tracewarden/tracewarden/monitor/Openings", "makeRoom", "()V"⟩ : MethodName) prog_92_method_10_code 1 none [] ({ frames := 0, cells := 0, slots := 0, locals := 0 } : Room) Z #[(.ref o0)] h0 n0 (fun v h => v = none ∧ h = h0) := by
  refine Own.doesOf pn3 ?_
  intro p e s m below meth c hx hby hml hret hlk hown hnm hZ
  refine Own.Goes.cast (ef8_4 m o0) ?_
  refine Own.aloadN hx (.ref o0) (hb hby d8_0) rfl rfl rfl ?_
  refine Own.getfield hx hZ hown O0 0 6 rfl rfl (hw _ (wm 68 rfl)) (hb hby d8_1) rfl ?_
  refine Own.aloadN hx (.ref o0) (hb hby d8_4) rfl rfl rfl ?_
  refine Own.getfield hx hZ hown O0 0 5 rfl rfl (hw _ (wm 62 rfl)) (hb hby d8_5) rfl ?_
  refine Own.iadd hx (hb hby d8_8) rfl ?_
  refine Own.vI (4 : Int32) (by decide) ?_
  refine Own.aloadN hx (.ref o0) (hb hby d8_9) rfl rfl rfl ?_
  refine Own.getfield hx hZ hown O0 0 0 rfl rfl (hw _ (wm 21 rfl)) (hb hby d8_10) rfl ?_
  refine Own.arrlen hx hZ O0 1 rfl (16 : Int32) rfl (hb hby d8_13) rfl ?_
  have hc1 : ¬ ((4 : Int32) = (16 : Int32)) := by decide
  refine Own.icmpFn hx (Own.q_ne (4 : Int32) (16 : Int32)) (hb hby d8_14) (pcN := 17) rfl (by decide) (pcT := 99) rfl (fun _ => ?_) (fun q => absurd q hc1)
  exact Own.retV hx hret hlk (hb hby d8_99) (by decide) (by decide) ⟨rfl, rfl⟩

theorem ef7_4 (m : MethodId) (x0 : Addr) (x1 : Int64) : entryFrame m #[(.ref x0), (.long x1), .null] 4 = mkF m 0 #[.val (.ref x0), .val (.long x1), .second, .val .null] [] := by first | (simp [entryFrame, mkF, argsToLocals, Value.category]; done) | rfl
set_option maxRecDepth 65536 in
set_option maxHeartbeats 40000000 in
theorem rm7_4 (l : Launch) (Z : State) (a0 : Array Value) (hw : ∀ d ∈ tables_1, d.before a0 Z = true) (o0 : Addr) (h0 : Heap) (n0 : Nat) (ra rb rt : Addr) (fr : List (Addr × (Cell → Prop))) (O0 : Own.Owns n0 h0 ((o0, OPo Z (.ref ra) (.ref rb) (iI (-1)) (iI (-1)) (.ref rt) (iI 4) (iI 0)) :: (ra, Own.ArrC Z .long [(jJ 0), (jJ 1), (jJ 2), (jJ 3), (jJ 0), (jJ 0), (jJ 0), (jJ 0), (jJ 0), (jJ 0), (jJ 0), (jJ 0), (jJ 0), (jJ 0), (jJ 0), (jJ 0)]) :: (rb, Own.ArrC Z .long [(jJ 0), (jJ 1), (jJ 2), (jJ 3), (jJ 0), (jJ 0), (jJ 0), (jJ 0), (jJ 0), (jJ 0), (jJ 0), (jJ 0), (jJ 0), (jJ 0), (jJ 0), (jJ 0)]) :: (rt, Own.ArrC Z (.object "java/math/BigDecimal") [.null, .null, .null, .null, .null, .null, .null, .null, .null, .null, .null, .null, .null, .null, .null, .null]) :: fr))  : Own.Does l (⟨"com/example/tracewarden/tracewarden/monitor/Openings", "add", "(JLjava/math/BigDecimal;)V"⟩ : MethodName) prog_92_method_9_code 4 none [] ({ frames := 1, cells := 0, slots := 0, locals := 12 } : Room) Z #[(.ref o0), (.long (4 : Int64)), .null] h0 n0 (fun v h => v = none ∧ Own.Owns n0 h ((o0, OPo Z (.ref ra) (.ref rb) (iI (-1)) (iI (-1)) (.ref rt) (iI 5) (iI 0)) :: (ra, Own.ArrC Z .long [(jJ 0), (jJ 1), (jJ 2), (jJ 3), (jJ 4), (jJ 0), (jJ 0), (jJ 0), (jJ 0), (jJ 0), (jJ 0), (jJ 0), (jJ 0), (jJ 0), (jJ 0), (jJ 0)]) :: (rb, Own.ArrC Z .long [(jJ 0), (jJ 1), (jJ 2), (jJ 3), (jJ 4), (jJ 0), (jJ 0), (jJ 0), (jJ 0), (jJ 0), (jJ 0), (jJ 0), (jJ 0), (jJ 0), (jJ 0), (jJ 0)]) :: (rt, Own.ArrC Z (.object "java/math/BigDecimal") [.null, .null, .null, .null, .null, .null, .null, .null, .null, .null, .null, .null, .null, .null, .null, .null]) :: fr)) := by
  refine Own.doesOf pn4 ?_
  intro p e s m below meth c hx hby hml hret hlk hown hnm hZ
  refine Own.Goes.cast (ef7_4 m o0 (4 : Int64)) ?_
  refine Own.aloadN hx (.ref o0) (hb hby d7_0) rfl rfl rfl ?_
  refine Own.getfield hx hZ hown O0 0 5 rfl rfl (hw _ (wm 62 rfl)) (hb hby d7_1) rfl ?_
  have hc1 : (0 : Int32) < (4 : Int32) := by decide
  refine Own.ifFn hx (Own.z_le (4 : Int32)) (hb hby d7_4) (pcN := 7) rfl (by decide) (pcT := 29) rfl (fun q => absurd hc1 q) (fun _ => ?_)
  refine Own.aloadN hx (.ref o0) (hb hby d7_7) rfl rfl rfl ?_
  refine Own.getfield hx hZ hown O0 0 0 rfl rfl (hw _ (wm 21 rfl)) (hb hby d7_8) rfl ?_
  refine Own.aloadN hx (.ref o0) (hb hby d7_11) rfl rfl rfl ?_
  refine Own.getfield hx hZ hown O0 0 6 rfl rfl (hw _ (wm 68 rfl)) (hb hby d7_12) rfl ?_
  refine Own.aloadN hx (.ref o0) (hb hby d7_15) rfl rfl rfl ?_
  refine Own.getfield hx hZ hown O0 0 5 rfl rfl (hw _ (wm 62 rfl)) (hb hby d7_16) rfl ?_
  refine Own.iadd hx (hb hby d7_19) rfl ?_
  refine Own.vI (4 : Int32) (by decide) ?_
  refine Own.iconst hx (1 : Int32) (hb hby d7_20) rfl (by decide) ?_
  refine Own.isub hx (hb hby d7_21) rfl ?_
  refine Own.vI (3 : Int32) (by decide) ?_
  refine Own.laload hx hZ O0 1 3 rfl (by decide) (v := (.long (3 : Int64))) rfl (hb hby d7_22) rfl ?_
  refine Own.lloadN hx (4 : Int64) (hb hby d7_23) rfl rfl ?_
  refine Own.lcmp hx (hb hby d7_24) rfl ?_
  have hc3 : ¬ ((3 : Int64) = (4 : Int64)) := by decide
  refine Own.ifFn hx (Own.w_ne (3 : Int64) (4 : Int64)) (hb hby d7_25) (pcN := 28) rfl (by decide) (pcT := 29) rfl (fun _ => ?_) (fun q => absurd q hc3)
  refine Own.aloadN hx (.ref o0) (hb hby d7_29) rfl rfl rfl ?_
  refine Own.callP hx hZ hown (O0.exa (i := 0) rfl) (hw _ (wm 64 rfl)) (hw _ (wm 65 rfl)) (hw _ (wm 15 rfl)) (hw _ (wm 66 rfl)) (hw _ (wm 12 rfl)) (hw _ (wm 67 rfl)) (by decide) pd0 (argsL := []) (rest := []) rfl (W := 0) (Nat.le_of_eq rfl) (rm := ({ frames := 0, cells := 0, slots := 0, locals := 0 } : Room)) (by decide) (by decide) (by decide) (by decide) (k' := 0) (n' := 0) rfl rfl (by rw [hml]; rfl) [(.ref o0)] rfl (hb hby d7_30) (pc' := 33) rfl (rm8_4 l Z a0 hw o0 h0 n0 ra rb rt ((rb, Own.ArrC Z .long [(jJ 0), (jJ 1), (jJ 2), (jJ 3), (jJ 0), (jJ 0), (jJ 0), (jJ 0), (jJ 0), (jJ 0), (jJ 0), (jJ 0), (jJ 0), (jJ 0), (jJ 0), (jJ 0)]) :: (rt, Own.ArrC Z (.object "java/math/BigDecimal") [.null, .null, .null, .null, .null, .null, .null, .null, .null, .null, .null, .null, .null, .null, .null, .null]) :: fr) O0) ?_
  rintro _ h' ⟨rfl, eh⟩
  rw [eh]; clear eh h'
  show Own.Goes _ _ _ _ _ _ _ _ _ _ _ _ _ _ _ _ _ (mkF m 33 #[.val (.ref o0), .val (.long (4 : Int64)), .second, .val .null] [])
  refine Own.aloadN hx (.ref o0) (hb hby d7_33) rfl rfl rfl ?_
  refine Own.getfield hx hZ hown O0 0 1 rfl rfl (hw _ (wm 23 rfl)) (hb hby d7_34) rfl ?_
  refine Own.aloadN hx (.ref o0) (hb hby d7_37) rfl rfl rfl ?_
  refine Own.getfield hx hZ hown O0 0 6 rfl rfl (hw _ (wm 68 rfl)) (hb hby d7_38) rfl ?_
  refine Own.aloadN hx (.ref o0) (hb hby d7_41) rfl rfl rfl ?_
  refine Own.getfield hx hZ hown O0 0 5 rfl rfl (hw _ (wm 62 rfl)) (hb hby d7_42) rfl ?_
  refine Own.iadd hx (hb hby d7_45) rfl ?_
  refine Own.vI (4 : Int32) (by decide) ?_
  refine Own.lloadN hx (4 : Int64) (hb hby d7_46) rfl rfl ?_
  refine Own.lastore hx hZ O0 2 4 rfl (by decide) (by exact (show 4 < 16 by decide)) ((o0, OPo Z (.ref ra) (.ref rb) (iI (-1)) (iI (-1)) (.ref rt) (iI 4) (iI 0)) :: (ra, Own.ArrC Z .long [(jJ 0), (jJ 1), (jJ 2), (jJ 3), (jJ 0), (jJ 0), (jJ 0), (jJ 0), (jJ 0), (jJ 0), (jJ 0), (jJ 0), (jJ 0), (jJ 0), (jJ 0), (jJ 0)]) :: (rb, Own.ArrC Z .long [(jJ 0), (jJ 1), (jJ 2), (jJ 3), (jJ 4), (jJ 0), (jJ 0), (jJ 0), (jJ 0), (jJ 0), (jJ 0), (jJ 0), (jJ 0), (jJ 0), (jJ 0), (jJ 0)]) :: (rt, Own.ArrC Z (.object "java/math/BigDecimal") [.null, .null, .null, .null, .null, .null, .null, .null, .null, .null, .null, .null, .null, .null, .null, .null]) :: fr) rfl (hb hby d7_47) rfl ?_
  intro h5 O6
  refine Own.aloadN hx (.ref o0) (hb hby d7_48) rfl rfl rfl ?_
  refine Own.getfield hx hZ hown O6 0 4 rfl rfl (hw _ (wm 31 rfl)) (hb hby d7_49) rfl ?_
  refine Own.aloadN hx (.ref o0) (hb hby d7_52) rfl rfl rfl ?_
  refine Own.getfield hx hZ hown O6 0 6 rfl rfl (hw _ (wm 68 rfl)) (hb hby d7_53) rfl ?_
  refine Own.aloadN hx (.ref o0) (hb hby d7_56) rfl rfl rfl ?_
  refine Own.getfield hx hZ hown O6 0 5 rfl rfl (hw _ (wm 62 rfl)) (hb hby d7_57) rfl ?_
  refine Own.iadd hx (hb hby d7_60) rfl ?_
  refine Own.vI (4 : Int32) (by decide) ?_
  refine Own.aloadN hx .null (hb hby d7_61) rfl rfl rfl ?_
  refine Own.aastoreN hx hZ O6 3 4 rfl (by decide) (by exact (show 4 < 16 by decide)) ((o0, OPo Z (.ref ra) (.ref rb) (iI (-1)) (iI (-1)) (.ref rt) (iI 4) (iI 0)) :: (ra, Own.ArrC Z .long [(jJ 0), (jJ 1), (jJ 2), (jJ 3), (jJ 0), (jJ 0), (jJ 0), (jJ 0), (jJ 0), (jJ 0), (jJ 0), (jJ 0), (jJ 0), (jJ 0), (jJ 0), (jJ 0)]) :: (rb, Own.ArrC Z .long [(jJ 0), (jJ 1), (jJ 2), (jJ 3), (jJ 4), (jJ 0), (jJ 0), (jJ 0), (jJ 0), (jJ 0), (jJ 0), (jJ 0), (jJ 0), (jJ 0), (jJ 0), (jJ 0)]) :: (rt, Own.ArrC Z (.object "java/math/BigDecimal") [.null, .null, .null, .null, .null, .null, .null, .null, .null, .null, .null, .null, .null, .null, .null, .null]) :: fr) rfl (hb hby d7_62) rfl ?_
  intro h7 O8
  refine Own.aloadN hx (.ref o0) (hb hby d7_63) rfl rfl rfl ?_
  refine Own.getfield hx hZ hown O8 0 0 rfl rfl (hw _ (wm 21 rfl)) (hb hby d7_64) rfl ?_
  refine Own.aloadN hx (.ref o0) (hb hby d7_67) rfl rfl rfl ?_
  refine Own.getfield hx hZ hown O8 0 6 rfl rfl (hw _ (wm 68 rfl)) (hb hby d7_68) rfl ?_
  refine Own.aloadN hx (.ref o0) (hb hby d7_71) rfl rfl rfl ?_
  refine Own.dup hx (hb hby d7_72) rfl rfl ?_
  refine Own.getfield hx hZ hown O8 0 5 rfl rfl (hw _ (wm 62 rfl)) (hb hby d7_73) rfl ?_
  refine Own.dupX1 hx (hb hby d7_76) rfl rfl rfl ?_
  refine Own.iconst hx (1 : Int32) (hb hby d7_77) rfl (by decide) ?_
  refine Own.iadd hx (hb hby d7_78) rfl ?_
  refine Own.vI (5 : Int32) (by decide) ?_
  refine Own.putfield hx hZ hown O8 0 5 rfl rfl (hw _ (wm 62 rfl)) (Or.inl (hw _ (wm 63 rfl))) (hw _ (wm 15 rfl)) (ty := .int) (by decide) rfl rfl ((o0, OPo Z (.ref ra) (.ref rb) (iI (-1)) (iI (-1)) (.ref rt) (iI 5) (iI 0)) :: (ra, Own.ArrC Z .long [(jJ 0), (jJ 1), (jJ 2), (jJ 3), (jJ 0), (jJ 0), (jJ 0), (jJ 0), (jJ 0), (jJ 0), (jJ 0), (jJ 0), (jJ 0), (jJ 0), (jJ 0), (jJ 0)]) :: (rb, Own.ArrC Z .long [(jJ 0), (jJ 1), (jJ 2), (jJ 3), (jJ 4), (jJ 0), (jJ 0), (jJ 0), (jJ 0), (jJ 0), (jJ 0), (jJ 0), (jJ 0), (jJ 0), (jJ 0), (jJ 0)]) :: (rt, Own.ArrC Z (.object "java/math/BigDecimal") [.null, .null, .null, .null, .null, .null, .null, .null, .null, .null, .null, .null, .null, .null, .null, .null]) :: fr) rfl (hb hby d7_79) rfl ?_
  intro h9 O10
  refine Own.iadd hx (hb hby d7_82) rfl ?_
  refine Own.vI (4 : Int32) (by decide) ?_
  refine Own.lloadN hx (4 : Int64) (hb hby d7_83) rfl rfl ?_
  refine Own.lastore hx hZ O10 1 4 rfl (by decide) (by exact (show 4 < 16 by decide)) ((o0, OPo Z (.ref ra) (.ref rb) (iI (-1)) (iI (-1)) (.ref rt) (iI 5) (iI 0)) :: (ra, Own.ArrC Z .long [(jJ 0), (jJ 1), (jJ 2), (jJ 3), (jJ 4), (jJ 0), (jJ 0), (jJ 0), (jJ 0), (jJ 0), (jJ 0), (jJ 0), (jJ 0), (jJ 0), (jJ 0), (jJ 0)]) :: (rb, Own.ArrC Z .long [(jJ 0), (jJ 1), (jJ 2), (jJ 3), (jJ 4), (jJ 0), (jJ 0), (jJ 0), (jJ 0), (jJ 0), (jJ 0), (jJ 0), (jJ 0), (jJ 0), (jJ 0), (jJ 0)]) :: (rt, Own.ArrC Z (.object "java/math/BigDecimal") [.null, .null, .null, .null, .null, .null, .null, .null, .null, .null, .null, .null, .null, .null, .null, .null]) :: fr) rfl (hb hby d7_84) rfl ?_
  intro h11 O12
  exact Own.retV hx hret hlk (hb hby d7_85) (by decide) (by decide) ⟨rfl, O12⟩

theorem pd1 : parseMethodDescriptor "(II)I" = some ⟨[.int, .int], some .int⟩ := by decide +kernel
theorem d9_0 : decode jdk_65_method_123_code 0 = .ok (.iload_n 1, 1) := by decide +kernel
theorem d9_1 : decode jdk_65_method_123_code 1 = .ok (.aload_n 0, 1) := by decide +kernel
theorem d9_2 : decode jdk_65_method_123_code 2 = .ok (.arraylength, 1) := by decide +kernel
theorem d9_3 : decode jdk_65_method_123_code 3 = .ok (.if_icmp .ne 11, 3) := by decide +kernel
theorem d9_14 : decode jdk_65_method_123_code 14 = .ok (.iload_n 1, 1) := by decide +kernel
theorem d9_15 : decode jdk_65_method_123_code 15 = .ok (.newarray .int, 2) := by decide +kernel
theorem d9_17 : decode jdk_65_method_123_code 17 = .ok (.astore_n 2, 1) := by decide +kernel
theorem d9_18 : decode jdk_65_method_123_code 18 = .ok (.aload_n 0, 1) := by decide +kernel
theorem d9_19 : decode jdk_65_method_123_code 19 = .ok (.iconst 0, 1) := by decide +kernel
theorem d9_20 : decode jdk_65_method_123_code 20 = .ok (.aload_n 2, 1) := by decide +kernel
theorem d9_21 : decode jdk_65_method_123_code 21 = .ok (.iconst 0, 1) := by decide +kernel
theorem d9_22 : decode jdk_65_method_123_code 22 = .ok (.aload_n 0, 1) := by decide +kernel
theorem d9_23 : decode jdk_65_method_123_code 23 = .ok (.arraylength, 1) := by decide +kernel
theorem d9_24 : decode jdk_65_method_123_code 24 = .ok (.iload_n 1, 1) := by decide +kernel
theorem d9_25 : decode jdk_65_method_123_code 25 = .ok (.invokestatic 304, 3) := by decide +kernel
theorem d9_28 : decode jdk_65_method_123_code 28 = .ok (.invokestatic 150, 3) := by decide +kernel
theorem d9_31 : decode jdk_65_method_123_code 31 = .ok (.aload_n 2, 1) := by decide +kernel
theorem d9_32 : decode jdk_65_method_123_code 32 = .ok (.areturn, 1) := by decide +kernel
theorem pn5 : plainFor (⟨"java/util/Arrays", "copyOf", "([II)[I"⟩ : MethodName) = true := by first | exact plainFor_of_name (by simp [plainName, overriddenIn]; done) | decide +kernel
theorem ef9 (m : MethodId) (x0 : Addr) (x1 : Int32) : entryFrame m #[(.ref x0), (.int x1)] 3 = mkF m 0 #[.val (.ref x0), .val (.int x1), .unset] [] := by first | (simp [entryFrame, mkF, argsToLocals, Value.category]; done) | rfl
set_option maxRecDepth 65536 in
set_option maxHeartbeats 40000000 in
theorem rm9 (l : Launch) (Z : State) (a0 : Array Value) (hw : ∀ d ∈ tables_1, d.before a0 Z = true) (o0 : Addr) (h0 : Heap) (n0 : Nat) (x0 x1 x2 x3 : Int32) (fr : List (Addr × (Cell → Prop))) (O0 : Own.Owns n0 h0 ((o0, Own.ArrC Z .int [(.int x0), (.int x1), (.int x2), (.int x3)]) :: fr))  : Own.Does l (⟨"java/util/Arrays", "copyOf", "([II)[I"⟩ : MethodName) jdk_65_method_123_code 3 (some (.array .int)) [] ({ frames := 1, cells := 1, slots := 8, locals := 18 } : Room) Z #[(.ref o0), (.int (8 : Int32))] h0 n0 (fun v h => ∃ r, v = some (.ref r) ∧ Own.Owns n0 h ((r, Own.ArrC Z .int [(.int x0), (.int x1), (.int x2), (.int x3), (iI 0), (iI 0), (iI 0), (iI 0)]) :: (o0, Own.ArrC Z .int [(.int x0), (.int x1), (.int x2), (.int x3)]) :: fr)) := by
  refine Own.doesOf pn5 ?_
  intro p e s m below meth c hx hby hml hret hlk hown hnm hZ
  refine Own.Goes.cast (ef9 m o0 (8 : Int32)) ?_
  refine Own.iloadN hx (8 : Int32) (hb hby d9_0) rfl rfl ?_
  refine Own.aloadN hx (.ref o0) (hb hby d9_1) rfl rfl rfl ?_
  refine Own.arrlen hx hZ O0 0 rfl (4 : Int32) rfl (hb hby d9_2) rfl ?_
  have hc1 : ¬ ((8 : Int32) = (4 : Int32)) := by decide
  refine Own.icmpFn hx (Own.q_ne (8 : Int32) (4 : Int32)) (hb hby d9_3) (pcN := 6) rfl (by decide) (pcT := 14) rfl (fun _ => ?_) (fun q => absurd q hc1)
  refine Own.iloadN hx (8 : Int32) (hb hby d9_14) rfl rfl ?_
  refine Own.newarr hx hZ O0 (aty := .int) (hw _ (wm 35 rfl)) 8 (by decide) [(.int (0 : Int32)), (.int (0 : Int32)), (.int (0 : Int32)), (.int (0 : Int32)), (.int (0 : Int32)), (.int (0 : Int32)), (.int (0 : Int32)), (.int (0 : Int32))] rfl rfl (cap := 8) (by decide) (by decide) (k' := 1) (n' := 8) rfl rfl (by decide) (by decide) (hb hby d9_15) (pc' := 17) rfl ?_
  intro a3 h4 O5
  refine Own.astoreN hx #[.val (.ref o0), .val (.int (8 : Int32)), .val (.ref a3)] (hb hby d9_17) rfl rfl rfl ?_
  refine Own.aloadN hx (.ref o0) (hb hby d9_18) rfl rfl rfl ?_
  refine Own.iconst hx (0 : Int32) (hb hby d9_19) rfl (by decide) ?_
  refine Own.aloadN hx (.ref a3) (hb hby d9_20) rfl rfl rfl ?_
  refine Own.iconst hx (0 : Int32) (hb hby d9_21) rfl (by decide) ?_
  refine Own.aloadN hx (.ref o0) (hb hby d9_22) rfl rfl rfl ?_
  refine Own.arrlen hx hZ O5 1 rfl (4 : Int32) rfl (hb hby d9_23) rfl ?_
  refine Own.iloadN hx (8 : Int32) (hb hby d9_24) rfl rfl ?_
  refine Own.callS hx hZ hown (hw _ (wm 77 rfl)) (hw _ (wm 78 rfl)) (hw _ (wm 79 rfl)) (hw _ (wm 80 rfl)) (by decide) pd1 (argsL := [(.int (4 : Int32)), (.int (8 : Int32))]) (rest := [(.int (0 : Int32)), (.ref a3), (.int (0 : Int32)), (.ref o0)]) rfl (W := 4) (Nat.le_of_eq rfl) (rm := ({ frames := 0, cells := 0, slots := 0, locals := 0 } : Room)) (by decide) (by decide) (by decide) (by decide) (k' := 1) (n' := 8) rfl rfl (by rw [hml]; rfl) [(.int (8 : Int32)), (.int (4 : Int32)), (.int (0 : Int32)), (.ref a3), (.int (0 : Int32)), (.ref o0)] rfl (hb hby d9_25) (pc' := 28) rfl (rm10 l Z a0 hw (4 : Int32) (8 : Int32) h4 n0) ?_
  rintro _ h' ⟨rfl, eh⟩
  rw [eh]; clear eh h'
  show Own.Goes _ _ _ _ _ _ _ _ _ _ _ _ _ _ _ _ _ (mkF m 28 #[.val (.ref o0), .val (.int (8 : Int32)), .val (.ref a3)] [(.int (fMinI (4 : Int32) (8 : Int32))), (.int (0 : Int32)), (.ref a3), (.int (0 : Int32)), (.ref o0)])
  refine Own.vI (4 : Int32) (by decide) ?_
  refine Own.acopy hx hZ hown (hw _ (wm 81 rfl)) (hw _ (wm 84 rfl)) (hw _ (wm 82 rfl)) (hw _ (wm 83 rfl)) O5 1 0 rfl rfl rfl 0 0 4 (by decide) (by decide) (by decide) (by exact (show 4 ≤ 4 by decide)) (by exact (show 4 ≤ 8 by decide)) (by exact (show 4 < 2147483648 by decide)) (by exact (show 8 < 2147483648 by decide)) [(.int x0), (.int x1), (.int x2), (.int x3), (.int (0 : Int32)), (.int (0 : Int32)), (.int (0 : Int32)), (.int (0 : Int32))] rfl ((a3, Own.ArrC Z .int [(.int x0), (.int x1), (.int x2), (.int x3), (iI 0), (iI 0), (iI 0), (iI 0)]) :: (o0, Own.ArrC Z .int [(.int x0), (.int x1), (.int x2), (.int x3)]) :: fr) rfl (by rw [hml]; rfl) (W := 0) (Nat.le_of_eq rfl) (by decide) (by decide) (hb hby d9_28) rfl ?_
  intro h6 O7
  refine Own.aloadN hx (.ref a3) (hb hby d9_31) rfl rfl rfl ?_
  exact Own.retA hx hret rfl hlk rfl rfl (hb hby d9_32) (by decide) (by decide) ⟨a3, rfl, O7⟩

theorem pd2 : parseMethodDescriptor "()Lcom/example/tracewarden/tracewarden/monitor/Openings;" = some ⟨[], some (.object "com/example/tracewarden/tracewarden/monitor/Openings")⟩ := by decide +kernel
theorem d1_0 : decode prog_144_method_1_code 0 = .ok (.aload_n 0, 1) := by decide +kernel
theorem d1_1 : decode prog_144_method_1_code 1 = .ok (.invokespecial 1, 3) := by decide +kernel
theorem d1_4 : decode prog_144_method_1_code 4 = .ok (.aload_n 0, 1) := by decide +kernel
theorem d1_5 : decode prog_144_method_1_code 5 = .ok (.invokestatic 7, 3) := by decide +kernel
theorem d1_8 : decode prog_144_method_1_code 8 = .ok (.putfield 13, 3) := by decide +kernel
theorem d1_11 : decode prog_144_method_1_code 11 = .ok (.aload_n 0, 1) := by decide +kernel
theorem d1_12 : decode prog_144_method_1_code 12 = .ok (.iconst 4, 1) := by decide +kernel
theorem d1_13 : decode prog_144_method_1_code 13 = .ok (.newarray .int, 2) := by decide +kernel
theorem d1_15 : decode prog_144_method_1_code 15 = .ok (.putfield 19, 3) := by decide +kernel
theorem d1_18 : decode prog_144_method_1_code 18 = .ok (.aload_n 0, 1) := by decide +kernel
theorem d1_19 : decode prog_144_method_1_code 19 = .ok (.iconst 4, 1) := by decide +kernel
theorem d1_20 : decode prog_144_method_1_code 20 = .ok (.newarray .int, 2) := by decide +kernel
theorem d1_22 : decode prog_144_method_1_code 22 = .ok (.putfield 23, 3) := by decide +kernel
theorem d1_25 : decode prog_144_method_1_code 25 = .ok (.aload_n 0, 1) := by decide +kernel
theorem d1_26 : decode prog_144_method_1_code 26 = .ok (.iconst 4, 1) := by decide +kernel
theorem d1_27 : decode prog_144_method_1_code 27 = .ok (.newarray .int, 2) := by decide +kernel
theorem d1_29 : decode prog_144_method_1_code 29 = .ok (.putfield 26, 3) := by decide +kernel
theorem d1_32 : decode prog_144_method_1_code 32 = .ok (.aload_n 0, 1) := by decide +kernel
theorem d1_33 : decode prog_144_method_1_code 33 = .ok (.iconst 4, 1) := by decide +kernel
theorem d1_34 : decode prog_144_method_1_code 34 = .ok (.newarray .long, 2) := by decide +kernel
theorem d1_36 : decode prog_144_method_1_code 36 = .ok (.putfield 29, 3) := by decide +kernel
theorem d1_39 : decode prog_144_method_1_code 39 = .ok (.aload_n 0, 1) := by decide +kernel
theorem d1_40 : decode prog_144_method_1_code 40 = .ok (.iload_n 1, 1) := by decide +kernel
theorem d1_41 : decode prog_144_method_1_code 41 = .ok (.putfield 33, 3) := by decide +kernel
theorem d1_44 : decode prog_144_method_1_code 44 = .ok (.return_, 1) := by decide +kernel
theorem pn6 : plainFor (⟨"com/example/tracewarden/tracewarden/monitor/WindowEntries", "<init>", "(I)V"⟩ : MethodName) = true := by first | exact plainFor_of_name (by simp [plainName, overriddenIn]; done) | decide +kernel
theorem ef1 (m : MethodId) (x0 : Addr) (x1 : Int32) : entryFrame m #[(.ref x0), (.int x1)] 2 = mkF m 0 #[.val (.ref x0), .val (.int x1)] [] := by first | (simp [entryFrame, mkF, argsToLocals, Value.category]; done) | rfl
set_option maxRecDepth 65536 in
set_option maxHeartbeats 40000000 in
theorem rm1 (l : Launch) (Z : State) (a0 : Array Value) (hw : ∀ d ∈ tables_1, d.before a0 Z = true) (o0 : Addr) (h0 : Heap) (n0 : Nat)  (fr : List (Addr × (Cell → Prop))) (O0 : Own.Owns n0 h0 ((o0, WEo Z .null .null .null .null .null (iI 0) (iI 0) (iI 0) (iI 0)) :: fr))  : Own.Does l (⟨"com/example/tracewarden/tracewarden/monitor/WindowEntries", "<init>", "(I)V"⟩ : MethodName) prog_144_method_1_code 2 none [] ({ frames := 3, cells := 8, slots := 71, locals := 40 } : Room) Z #[(.ref o0), (.int (0 : Int32))] h0 n0 (fun v h => ∃ oc of' ol ok op ra rb rt, v = none ∧ Own.Owns n0 h ((o0, WEo Z (.ref op) (.ref oc) (.ref of') (.ref ol) (.ref ok) (iI 0) (iI 0) (iI 0) (iI 0)) :: (oc, Own.ArrC Z .int [(iI 0), (iI 0), (iI 0), (iI 0)]) :: (of', Own.ArrC Z .int [(iI 0), (iI 0), (iI 0), (iI 0)]) :: (ol, Own.ArrC Z .int [(iI 0), (iI 0), (iI 0), (iI 0)]) :: (ok, Own.ArrC Z .long [(jJ 0), (jJ 0), (jJ 0), (jJ 0)]) :: (op, OPo Z (.ref ra) (.ref rb) (iI (-1)) (iI (-1)) (.ref rt) (iI 0) (iI 0)) :: (ra, Own.ArrC Z .long [(jJ 0), (jJ 0), (jJ 0), (jJ 0), (jJ 0), (jJ 0), (jJ 0), (jJ 0), (jJ 0), (jJ 0), (jJ 0), (jJ 0), (jJ 0), (jJ 0), (jJ 0), (jJ 0)]) :: (rb, Own.ArrC Z .long [(jJ 0), (jJ 0), (jJ 0), (jJ 0), (jJ 0), (jJ 0), (jJ 0), (jJ 0), (jJ 0), (jJ 0), (jJ 0), (jJ 0), (jJ 0), (jJ 0), (jJ 0), (jJ 0)]) :: (rt, Own.ArrC Z (.object "java/math/BigDecimal") [.null, .null, .null, .null, .null, .null, .null, .null, .null, .null, .null, .null, .null, .null, .null, .null]) :: fr)) := by
  refine Own.doesOf pn6 ?_
  intro p e s m below meth c hx hby hml hret hlk hown hnm hZ
  refine Own.Goes.cast (ef1 m o0 (0 : Int32)) ?_
  refine Own.aloadN hx (.ref o0) (hb hby d1_0) rfl rfl rfl ?_
  refine Own.initobj hx hZ hown (hw _ (wm 7 rfl)) (hw _ (wm 8 rfl)) (hw _ (wm 9 rfl)) (by rw [hml]; rfl) (W := 0) (Nat.le_of_eq rfl) (by decide) (by decide) (hb hby d1_1) rfl ?_
  refine Own.aloadN hx (.ref o0) (hb hby d1_4) rfl rfl rfl ?_
  refine Own.callS hx hZ hown (hw _ (wm 10 rfl)) (hw _ (wm 11 rfl)) (hw _ (wm 12 rfl)) (hw _ (wm 13 rfl)) (by decide) pd2 (argsL := []) (rest := [(.ref o0)]) rfl (W := 1) (Nat.le_of_eq rfl) (rm := ({ frames := 2, cells := 4, slots := 55, locals := 26 } : Room)) (by decide) (by decide) (by decide) (by decide) (k' := 4) (n' := 55) rfl rfl (by rw [hml]; rfl) [(.ref o0)] rfl (hb hby d1_5) (pc' := 8) rfl (rm3 l Z a0 hw h0 n0 ((o0, WEo Z .null .null .null .null .null (iI 0) (iI 0) (iI 0) (iI 0)) :: fr) O0) ?_
  rintro _ h5 ⟨op1, ra2, rb3, rt4, rfl, O6⟩
  show Own.Goes _ _ _ _ _ _ _ _ _ _ _ _ _ _ _ _ _ (mkF m 8 #[.val (.ref o0), .val (.int (0 : Int32))] [(.ref op1), (.ref o0)])
  refine Own.putfield hx hZ hown O6 4 0 rfl rfl (hw _ (wm 33 rfl)) (Or.inr ⟨(hw _ (wm 34 rfl)), rfl, hnm⟩) (hw _ (wm 2 rfl)) (ty := (.object "com/example/tracewarden/tracewarden/monitor/Openings")) (by decide) rfl rfl ((op1, OPo Z (.ref ra2) (.ref rb3) (iI (-1)) (iI (-1)) (.ref rt4) (iI 0) (iI 0)) :: (ra2, Own.ArrC Z .long [(jJ 0), (jJ 0), (jJ 0), (jJ 0), (jJ 0), (jJ 0), (jJ 0), (jJ 0), (jJ 0), (jJ 0), (jJ 0), (jJ 0), (jJ 0), (jJ 0), (jJ 0), (jJ 0)]) :: (rb3, Own.ArrC Z .long [(jJ 0), (jJ 0), (jJ 0), (jJ 0), (jJ 0), (jJ 0), (jJ 0), (jJ 0), (jJ 0), (jJ 0), (jJ 0), (jJ 0), (jJ 0), (jJ 0), (jJ 0), (jJ 0)]) :: (rt4, Own.ArrC Z (.object "java/math/BigDecimal") [.null, .null, .null, .null, .null, .null, .null, .null, .null, .null, .null, .null, .null, .null, .null, .null]) :: (o0, WEo Z (.ref op1) .null .null .null .null (iI 0) (iI 0) (iI 0) (iI 0)) :: fr) rfl (hb hby d1_8) rfl ?_
  intro h7 O8
  refine Own.aloadN hx (.ref o0) (hb hby d1_11) rfl rfl rfl ?_
  refine Own.iconst hx (4 : Int32) (hb hby d1_12) rfl (by decide) ?_
  refine Own.newarr hx hZ O8 (aty := .int) (hw _ (wm 35 rfl)) 4 (by decide) [(.int (0 : Int32)), (.int (0 : Int32)), (.int (0 : Int32)), (.int (0 : Int32))] rfl rfl (cap := 4) (by decide) (by decide) (k' := 5) (n' := 59) rfl rfl (by decide) (by decide) (hb hby d1_13) (pc' := 15) rfl ?_
  intro a9 h10 O11
  refine Own.putfield hx hZ hown O11 5 1 rfl rfl (hw _ (wm 36 rfl)) (Or.inl (hw _ (wm 37 rfl))) (hw _ (wm 2 rfl)) (ty := (.array .int)) (by decide) rfl rfl ((a9, Own.ArrC Z .int [(iI 0), (iI 0), (iI 0), (iI 0)]) :: (op1, OPo Z (.ref ra2) (.ref rb3) (iI (-1)) (iI (-1)) (.ref rt4) (iI 0) (iI 0)) :: (ra2, Own.ArrC Z .long [(jJ 0), (jJ 0), (jJ 0), (jJ 0), (jJ 0), (jJ 0), (jJ 0), (jJ 0), (jJ 0), (jJ 0), (jJ 0), (jJ 0), (jJ 0), (jJ 0), (jJ 0), (jJ 0)]) :: (rb3, Own.ArrC Z .long [(jJ 0), (jJ 0), (jJ 0), (jJ 0), (jJ 0), (jJ 0), (jJ 0), (jJ 0), (jJ 0), (jJ 0), (jJ 0), (jJ 0), (jJ 0), (jJ 0), (jJ 0), (jJ 0)]) :: (rt4, Own.ArrC Z (.object "java/math/BigDecimal") [.null, .null, .null, .null, .null, .null, .null, .null, .null, .null, .null, .null, .null, .null, .null, .null]) :: (o0, WEo Z (.ref op1) (.ref a9) .null .null .null (iI 0) (iI 0) (iI 0) (iI 0)) :: fr) rfl (hb hby d1_15) rfl ?_
  intro h12 O13
  refine Own.aloadN hx (.ref o0) (hb hby d1_18) rfl rfl rfl ?_
  refine Own.iconst hx (4 : Int32) (hb hby d1_19) rfl (by decide) ?_
  refine Own.newarr hx hZ O13 (aty := .int) (hw _ (wm 35 rfl)) 4 (by decide) [(.int (0 : Int32)), (.int (0 : Int32)), (.int (0 : Int32)), (.int (0 : Int32))] rfl rfl (cap := 4) (by decide) (by decide) (k' := 6) (n' := 63) rfl rfl (by decide) (by decide) (hb hby d1_20) (pc' := 22) rfl ?_
  intro a14 h15 O16
  refine Own.putfield hx hZ hown O16 6 2 rfl rfl (hw _ (wm 38 rfl)) (Or.inl (hw _ (wm 39 rfl))) (hw _ (wm 2 rfl)) (ty := (.array .int)) (by decide) rfl rfl ((a14, Own.ArrC Z .int [(iI 0), (iI 0), (iI 0), (iI 0)]) :: (a9, Own.ArrC Z .int [(iI 0), (iI 0), (iI 0), (iI 0)]) :: (op1, OPo Z (.ref ra2) (.ref rb3) (iI (-1)) (iI (-1)) (.ref rt4) (iI 0) (iI 0)) :: (ra2, Own.ArrC Z .long [(jJ 0), (jJ 0), (jJ 0), (jJ 0), (jJ 0), (jJ 0), (jJ 0), (jJ 0), (jJ 0), (jJ 0), (jJ 0), (jJ 0), (jJ 0), (jJ 0), (jJ 0), (jJ 0)]) :: (rb3, Own.ArrC Z .long [(jJ 0), (jJ 0), (jJ 0), (jJ 0), (jJ 0), (jJ 0), (jJ 0), (jJ 0), (jJ 0), (jJ 0), (jJ 0), (jJ 0), (jJ 0), (jJ 0), (jJ 0), (jJ 0)]) :: (rt4, Own.ArrC Z (.object "java/math/BigDecimal") [.null, .null, .null, .null, .null, .null, .null, .null, .null, .null, .null, .null, .null, .null, .null, .null]) :: (o0, WEo Z (.ref op1) (.ref a9) (.ref a14) .null .null (iI 0) (iI 0) (iI 0) (iI 0)) :: fr) rfl (hb hby d1_22) rfl ?_
  intro h17 O18
  refine Own.aloadN hx (.ref o0) (hb hby d1_25) rfl rfl rfl ?_
  refine Own.iconst hx (4 : Int32) (hb hby d1_26) rfl (by decide) ?_
  refine Own.newarr hx hZ O18 (aty := .int) (hw _ (wm 35 rfl)) 4 (by decide) [(.int (0 : Int32)), (.int (0 : Int32)), (.int (0 : Int32)), (.int (0 : Int32))] rfl rfl (cap := 4) (by decide) (by decide) (k' := 7) (n' := 67) rfl rfl (by decide) (by decide) (hb hby d1_27) (pc' := 29) rfl ?_
  intro a19 h20 O21
  refine Own.putfield hx hZ hown O21 7 3 rfl rfl (hw _ (wm 40 rfl)) (Or.inl (hw _ (wm 41 rfl))) (hw _ (wm 2 rfl)) (ty := (.array .int)) (by decide) rfl rfl ((a19, Own.ArrC Z .int [(iI 0), (iI 0), (iI 0), (iI 0)]) :: (a14, Own.ArrC Z .int [(iI 0), (iI 0), (iI 0), (iI 0)]) :: (a9, Own.ArrC Z .int [(iI 0), (iI 0), (iI 0), (iI 0)]) :: (op1, OPo Z (.ref ra2) (.ref rb3) (iI (-1)) (iI (-1)) (.ref rt4) (iI 0) (iI 0)) :: (ra2, Own.ArrC Z .long [(jJ 0), (jJ 0), (jJ 0), (jJ 0), (jJ 0), (jJ 0), (jJ 0), (jJ 0), (jJ 0), (jJ 0), (jJ 0), (jJ 0), (jJ 0), (jJ 0), (jJ 0), (jJ 0)]) :: (rb3, Own.ArrC Z .long [(jJ 0), (jJ 0), (jJ 0), (jJ 0), (jJ 0), (jJ 0), (jJ 0), (jJ 0), (jJ 0), (jJ 0), (jJ 0), (jJ 0), (jJ 0), (jJ 0), (jJ 0), (jJ 0)]) :: (rt4, Own.ArrC Z (.object "java/math/BigDecimal") [.null, .null, .null, .null, .null, .null, .null, .null, .null, .null, .null, .null, .null, .null, .null, .null]) :: (o0, WEo Z (.ref op1) (.ref a9) (.ref a14) (.ref a19) .null (iI 0) (iI 0) (iI 0) (iI 0)) :: fr) rfl (hb hby d1_29) rfl ?_
  intro h22 O23
  refine Own.aloadN hx (.ref o0) (hb hby d1_32) rfl rfl rfl ?_
  refine Own.iconst hx (4 : Int32) (hb hby d1_33) rfl (by decide) ?_
  refine Own.newarr hx hZ O23 (aty := .long) (hw _ (wm 20 rfl)) 4 (by decide) [(.long (0 : Int64)), (.long (0 : Int64)), (.long (0 : Int64)), (.long (0 : Int64))] rfl rfl (cap := 4) (by decide) (by decide) (k' := 8) (n' := 71) rfl rfl (by decide) (by decide) (hb hby d1_34) (pc' := 36) rfl ?_
  intro a24 h25 O26
  refine Own.putfield hx hZ hown O26 8 4 rfl rfl (hw _ (wm 42 rfl)) (Or.inl (hw _ (wm 43 rfl))) (hw _ (wm 2 rfl)) (ty := (.array .long)) (by decide) rfl rfl ((a24, Own.ArrC Z .long [(jJ 0), (jJ 0), (jJ 0), (jJ 0)]) :: (a19, Own.ArrC Z .int [(iI 0), (iI 0), (iI 0), (iI 0)]) :: (a14, Own.ArrC Z .int [(iI 0), (iI 0), (iI 0), (iI 0)]) :: (a9, Own.ArrC Z .int [(iI 0), (iI 0), (iI 0), (iI 0)]) :: (op1, OPo Z (.ref ra2) (.ref rb3) (iI (-1)) (iI (-1)) (.ref rt4) (iI 0) (iI 0)) :: (ra2, Own.ArrC Z .long [(jJ 0), (jJ 0), (jJ 0), (jJ 0), (jJ 0), (jJ 0), (jJ 0), (jJ 0), (jJ 0), (jJ 0), (jJ 0), (jJ 0), (jJ 0), (jJ 0), (jJ 0), (jJ 0)]) :: (rb3, Own.ArrC Z .long [(jJ 0), (jJ 0), (jJ 0), (jJ 0), (jJ 0), (jJ 0), (jJ 0), (jJ 0), (jJ 0), (jJ 0), (jJ 0), (jJ 0), (jJ 0), (jJ 0), (jJ 0), (jJ 0)]) :: (rt4, Own.ArrC Z (.object "java/math/BigDecimal") [.null, .null, .null, .null, .null, .null, .null, .null, .null, .null, .null, .null, .null, .null, .null, .null]) :: (o0, WEo Z (.ref op1) (.ref a9) (.ref a14) (.ref a19) (.ref a24) (iI 0) (iI 0) (iI 0) (iI 0)) :: fr) rfl (hb hby d1_36) rfl ?_
  intro h27 O28
  refine Own.aloadN hx (.ref o0) (hb hby d1_39) rfl rfl rfl ?_
  refine Own.iloadN hx (0 : Int32) (hb hby d1_40) rfl rfl ?_
  refine Own.putfield hx hZ hown O28 8 5 rfl rfl (hw _ (wm 44 rfl)) (Or.inr ⟨(hw _ (wm 45 rfl)), rfl, hnm⟩) (hw _ (wm 2 rfl)) (ty := .int) (by decide) rfl rfl ((a24, Own.ArrC Z .long [(jJ 0), (jJ 0), (jJ 0), (jJ 0)]) :: (a19, Own.ArrC Z .int [(iI 0), (iI 0), (iI 0), (iI 0)]) :: (a14, Own.ArrC Z .int [(iI 0), (iI 0), (iI 0), (iI 0)]) :: (a9, Own.ArrC Z .int [(iI 0), (iI 0), (iI 0), (iI 0)]) :: (op1, OPo Z (.ref ra2) (.ref rb3) (iI (-1)) (iI (-1)) (.ref rt4) (iI 0) (iI 0)) :: (ra2, Own.ArrC Z .long [(jJ 0), (jJ 0), (jJ 0), (jJ 0), (jJ 0), (jJ 0), (jJ 0), (jJ 0), (jJ 0), (jJ 0), (jJ 0), (jJ 0), (jJ 0), (jJ 0), (jJ 0), (jJ 0)]) :: (rb3, Own.ArrC Z .long [(jJ 0), (jJ 0), (jJ 0), (jJ 0), (jJ 0), (jJ 0), (jJ 0), (jJ 0), (jJ 0), (jJ 0), (jJ 0), (jJ 0), (jJ 0), (jJ 0), (jJ 0), (jJ 0)]) :: (rt4, Own.ArrC Z (.object "java/math/BigDecimal") [.null, .null, .null, .null, .null, .null, .null, .null, .null, .null, .null, .null, .null, .null, .null, .null]) :: (o0, WEo Z (.ref op1) (.ref a9) (.ref a14) (.ref a19) (.ref a24) (iI 0) (iI 0) (iI 0) (iI 0)) :: fr) rfl (hb hby d1_41) rfl ?_
  intro h29 O30
  have O31 : Own.Owns n0 h29 ((rt4, Own.ArrC Z (.object "java/math/BigDecimal") [.null, .null, .null, .null, .null, .null, .null, .null, .null, .null, .null, .null, .null, .null, .null, .null]) :: (a24, Own.ArrC Z .long [(jJ 0), (jJ 0), (jJ 0), (jJ 0)]) :: (a19, Own.ArrC Z .int [(iI 0), (iI 0), (iI 0), (iI 0)]) :: (a14, Own.ArrC Z .int [(iI 0), (iI 0), (iI 0), (iI 0)]) :: (a9, Own.ArrC Z .int [(iI 0), (iI 0), (iI 0), (iI 0)]) :: (op1, OPo Z (.ref ra2) (.ref rb3) (iI (-1)) (iI (-1)) (.ref rt4) (iI 0) (iI 0)) :: (ra2, Own.ArrC Z .long [(jJ 0), (jJ 0), (jJ 0), (jJ 0), (jJ 0), (jJ 0), (jJ 0), (jJ 0), (jJ 0), (jJ 0), (jJ 0), (jJ 0), (jJ 0), (jJ 0), (jJ 0), (jJ 0)]) :: (rb3, Own.ArrC Z .long [(jJ 0), (jJ 0), (jJ 0), (jJ 0), (jJ 0), (jJ 0), (jJ 0), (jJ 0), (jJ 0), (jJ 0), (jJ 0), (jJ 0), (jJ 0), (jJ 0), (jJ 0), (jJ 0)]) :: (o0, WEo Z (.ref op1) (.ref a9) (.ref a14) (.ref a19) (.ref a24) (iI 0) (iI 0) (iI 0) (iI 0)) :: fr) := O30.pick 7 rfl
  have O32 : Own.Owns n0 h29 ((rb3, Own.ArrC Z .long [(jJ 0), (jJ 0), (jJ 0), (jJ 0), (jJ 0), (jJ 0), (jJ 0), (jJ 0), (jJ 0), (jJ 0), (jJ 0), (jJ 0), (jJ 0), (jJ 0), (jJ 0), (jJ 0)]) :: (rt4, Own.ArrC Z (.object "java/math/BigDecimal") [.null, .null, .null, .null, .null, .null, .null, .null, .null, .null, .null, .null, .null, .null, .null, .null]) :: (a24, Own.ArrC Z .long [(jJ 0), (jJ 0), (jJ 0), (jJ 0)]) :: (a19, Own.ArrC Z .int [(iI 0), (iI 0), (iI 0), (iI 0)]) :: (a14, Own.ArrC Z .int [(iI 0), (iI 0), (iI 0), (iI 0)]) :: (a9, Own.ArrC Z .int [(iI 0), (iI 0), (iI 0), (iI 0)]) :: (op1, OPo Z (.ref ra2) (.ref rb3) (iI (-1)) (iI (-1)) (.ref rt4) (iI 0) (iI 0)) :: (ra2, Own.ArrC Z .long [(jJ 0), (jJ 0), (jJ 0), (jJ 0), (jJ 0), (jJ 0), (jJ 0), (jJ 0), (jJ 0), (jJ 0), (jJ 0), (jJ 0), (jJ 0), (jJ 0), (jJ 0), (jJ 0)]) :: (o0, WEo Z (.ref op1) (.ref a9) (.ref a14) (.ref a19) (.ref a24) (iI 0) (iI 0) (iI 0) (iI 0)) :: fr) := O31.pick 7 rfl
  have O33 : Own.Owns n0 h29 ((ra2, Own.ArrC Z .long [(jJ 0), (jJ 0), (jJ 0), (jJ 0), (jJ 0), (jJ 0), (jJ 0), (jJ 0), (jJ 0), (jJ 0), (jJ 0), (jJ 0), (jJ 0), (jJ 0), (jJ 0), (jJ 0)]) :: (rb3, Own.ArrC Z .long [(jJ 0), (jJ 0), (jJ 0), (jJ 0), (jJ 0), (jJ 0), (jJ 0), (jJ 0), (jJ 0), (jJ 0), (jJ 0), (jJ 0), (jJ 0), (jJ 0), (jJ 0), (jJ 0)]) :: (rt4, Own.ArrC Z (.object "java/math/BigDecimal") [.null, .null, .null, .null, .null, .null, .null, .null, .null, .null, .null, .null, .null, .null, .null, .null]) :: (a24, Own.ArrC Z .long [(jJ 0), (jJ 0), (jJ 0), (jJ 0)]) :: (a19, Own.ArrC Z .int [(iI 0), (iI 0), (iI 0), (iI 0)]) :: (a14, Own.ArrC Z .int [(iI 0), (iI 0), (iI 0), (iI 0)]) :: (a9, Own.ArrC Z .int [(iI 0), (iI 0), (iI 0), (iI 0)]) :: (op1, OPo Z (.ref ra2) (.ref rb3) (iI (-1)) (iI (-1)) (.ref rt4) (iI 0) (iI 0)) :: (o0, WEo Z (.ref op1) (.ref a9) (.ref a14) (.ref a19) (.ref a24) (iI 0) (iI 0) (iI 0) (iI 0)) :: fr) := O32.pick 7 rfl
  have O34 : Own.Owns n0 h29 ((op1, OPo Z (.ref ra2) (.ref rb3) (iI (-1)) (iI (-1)) (.ref rt4) (iI 0) (iI 0)) :: (ra2, Own.ArrC Z .long [(jJ 0), (jJ 0), (jJ 0), (jJ 0), (jJ 0), (jJ 0), (jJ 0), (jJ 0), (jJ 0), (jJ 0), (jJ 0), (jJ 0), (jJ 0), (jJ 0), (jJ 0), (jJ 0)]) :: (rb3, Own.ArrC Z .long [(jJ 0), (jJ 0), (jJ 0), (jJ 0), (jJ 0), (jJ 0), (jJ 0), (jJ 0), (jJ 0), (jJ 0), (jJ 0), (jJ 0), (jJ 0), (jJ 0), (jJ 0), (jJ 0)]) :: (rt4, Own.ArrC Z (.object "java/math/BigDecimal") [.null, .null, .null, .null, .null, .null, .null, .null, .null, .null, .null, .null, .null, .null, .null, .null]) :: (a24, Own.ArrC Z .long [(jJ 0), (jJ 0), (jJ 0), (jJ 0)]) :: (a19, Own.ArrC Z .int [(iI 0), (iI 0), (iI 0), (iI 0)]) :: (a14, Own.ArrC Z .int [(iI 0), (iI 0), (iI 0), (iI 0)]) :: (a9, Own.ArrC Z .int [(iI 0), (iI 0), (iI 0), (iI 0)]) :: (o0, WEo Z (.ref op1) (.ref a9) (.ref a14) (.ref a19) (.ref a24) (iI 0) (iI 0) (iI 0) (iI 0)) :: fr) := O33.pick 7 rfl
  have O35 : Own.Owns n0 h29 ((a24, Own.ArrC Z .long [(jJ 0), (jJ 0), (jJ 0), (jJ 0)]) :: (op1, OPo Z (.ref ra2) (.ref rb3) (iI (-1)) (iI (-1)) (.ref rt4) (iI 0) (iI 0)) :: (ra2, Own.ArrC Z .long [(jJ 0), (jJ 0), (jJ 0), (jJ 0), (jJ 0), (jJ 0), (jJ 0), (jJ 0), (jJ 0), (jJ 0), (jJ 0), (jJ 0), (jJ 0), (jJ 0), (jJ 0), (jJ 0)]) :: (rb3, Own.ArrC Z .long [(jJ 0), (jJ 0), (jJ 0), (jJ 0), (jJ 0), (jJ 0), (jJ 0), (jJ 0), (jJ 0), (jJ 0), (jJ 0), (jJ 0), (jJ 0), (jJ 0), (jJ 0), (jJ 0)]) :: (rt4, Own.ArrC Z (.object "java/math/BigDecimal") [.null, .null, .null, .null, .null, .null, .null, .null, .null, .null, .null, .null, .null, .null, .null, .null]) :: (a19, Own.ArrC Z .int [(iI 0), (iI 0), (iI 0), (iI 0)]) :: (a14, Own.ArrC Z .int [(iI 0), (iI 0), (iI 0), (iI 0)]) :: (a9, Own.ArrC Z .int [(iI 0), (iI 0), (iI 0), (iI 0)]) :: (o0, WEo Z (.ref op1) (.ref a9) (.ref a14) (.ref a19) (.ref a24) (iI 0) (iI 0) (iI 0) (iI 0)) :: fr) := O34.pick 4 rfl
  have O36 : Own.Owns n0 h29 ((a19, Own.ArrC Z .int [(iI 0), (iI 0), (iI 0), (iI 0)]) :: (a24, Own.ArrC Z .long [(jJ 0), (jJ 0), (jJ 0), (jJ 0)]) :: (op1, OPo Z (.ref ra2) (.ref rb3) (iI (-1)) (iI (-1)) (.ref rt4) (iI 0) (iI 0)) :: (ra2, Own.ArrC Z .long [(jJ 0), (jJ 0), (jJ 0), (jJ 0), (jJ 0), (jJ 0), (jJ 0), (jJ 0), (jJ 0), (jJ 0), (jJ 0), (jJ 0), (jJ 0), (jJ 0), (jJ 0), (jJ 0)]) :: (rb3, Own.ArrC Z .long [(jJ 0), (jJ 0), (jJ 0), (jJ 0), (jJ 0), (jJ 0), (jJ 0), (jJ 0), (jJ 0), (jJ 0), (jJ 0), (jJ 0), (jJ 0), (jJ 0), (jJ 0), (jJ 0)]) :: (rt4, Own.ArrC Z (.object "java/math/BigDecimal") [.null, .null, .null, .null, .null, .null, .null, .null, .null, .null, .null, .null, .null, .null, .null, .null]) :: (a14, Own.ArrC Z .int [(iI 0), (iI 0), (iI 0), (iI 0)]) :: (a9, Own.ArrC Z .int [(iI 0), (iI 0), (iI 0), (iI 0)]) :: (o0, WEo Z (.ref op1) (.ref a9) (.ref a14) (.ref a19) (.ref a24) (iI 0) (iI 0) (iI 0) (iI 0)) :: fr) := O35.pick 5 rfl
  have O37 : Own.Owns n0 h29 ((a14, Own.ArrC Z .int [(iI 0), (iI 0), (iI 0), (iI 0)]) :: (a19, Own.ArrC Z .int [(iI 0), (iI 0), (iI 0), (iI 0)]) :: (a24, Own.ArrC Z .long [(jJ 0), (jJ 0), (jJ 0), (jJ 0)]) :: (op1, OPo Z (.ref ra2) (.ref rb3) (iI (-1)) (iI (-1)) (.ref rt4) (iI 0) (iI 0)) :: (ra2, Own.ArrC Z .long [(jJ 0), (jJ 0), (jJ 0), (jJ 0), (jJ 0), (jJ 0), (jJ 0), (jJ 0), (jJ 0), (jJ 0), (jJ 0), (jJ 0), (jJ 0), (jJ 0), (jJ 0), (jJ 0)]) :: (rb3, Own.ArrC Z .long [(jJ 0), (jJ 0), (jJ 0), (jJ 0), (jJ 0), (jJ 0), (jJ 0), (jJ 0), (jJ 0), (jJ 0), (jJ 0), (jJ 0), (jJ 0), (jJ 0), (jJ 0), (jJ 0)]) :: (rt4, Own.ArrC Z (.object "java/math/BigDecimal") [.null, .null, .null, .null, .null, .null, .null, .null, .null, .null, .null, .null, .null, .null, .null, .null]) :: (a9, Own.ArrC Z .int [(iI 0), (iI 0), (iI 0), (iI 0)]) :: (o0, WEo Z (.ref op1) (.ref a9) (.ref a14) (.ref a19) (.ref a24) (iI 0) (iI 0) (iI 0) (iI 0)) :: fr) := O36.pick 6 rfl
  have O38 : Own.Owns n0 h29 ((a9, Own.ArrC Z .int [(iI 0), (iI 0), (iI 0), (iI 0)]) :: (a14, Own.ArrC Z .int [(iI 0), (iI 0), (iI 0), (iI 0)]) :: (a19, Own.ArrC Z .int [(iI 0), (iI 0), (iI 0), (iI 0)]) :: (a24, Own.ArrC Z .long [(jJ 0), (jJ 0), (jJ 0), (jJ 0)]) :: (op1, OPo Z (.ref ra2) (.ref rb3) (iI (-1)) (iI (-1)) (.ref rt4) (iI 0) (iI 0)) :: (ra2, Own.ArrC Z .long [(jJ 0), (jJ 0), (jJ 0), (jJ 0), (jJ 0), (jJ 0), (jJ 0), (jJ 0), (jJ 0), (jJ 0), (jJ 0), (jJ 0), (jJ 0), (jJ 0), (jJ 0), (jJ 0)]) :: (rb3, Own.ArrC Z .long [(jJ 0), (jJ 0), (jJ 0), (jJ 0), (jJ 0), (jJ 0), (jJ 0), (jJ 0), (jJ 0), (jJ 0), (jJ 0), (jJ 0), (jJ 0), (jJ 0), (jJ 0), (jJ 0)]) :: (rt4, Own.ArrC Z (.object "java/math/BigDecimal") [.null, .null, .null, .null, .null, .null, .null, .null, .null, .null, .null, .null, .null, .null, .null, .null]) :: (o0, WEo Z (.ref op1) (.ref a9) (.ref a14) (.ref a19) (.ref a24) (iI 0) (iI 0) (iI 0) (iI 0)) :: fr) := O37.pick 7 rfl
  have O39 : Own.Owns n0 h29 ((o0, WEo Z (.ref op1) (.ref a9) (.ref a14) (.ref a19) (.ref a24) (iI 0) (iI 0) (iI 0) (iI 0)) :: (a9, Own.ArrC Z .int [(iI 0), (iI 0), (iI 0), (iI 0)]) :: (a14, Own.ArrC Z .int [(iI 0), (iI 0), (iI 0), (iI 0)]) :: (a19, Own.ArrC Z .int [(iI 0), (iI 0), (iI 0), (iI 0)]) :: (a24, Own.ArrC Z .long [(jJ 0), (jJ 0), (jJ 0), (jJ 0)]) :: (op1, OPo Z (.ref ra2) (.ref rb3) (iI (-1)) (iI (-1)) (.ref rt4) (iI 0) (iI 0)) :: (ra2, Own.ArrC Z .long [(jJ 0), (jJ 0), (jJ 0), (jJ 0), (jJ 0), (jJ 0), (jJ 0), (jJ 0), (jJ 0), (jJ 0), (jJ 0), (jJ 0), (jJ 0), (jJ 0), (jJ 0), (jJ 0)]) :: (rb3, Own.ArrC Z .long [(jJ 0), (jJ 0), (jJ 0), (jJ 0), (jJ 0), (jJ 0), (jJ 0), (jJ 0), (jJ 0), (jJ 0), (jJ 0), (jJ 0), (jJ 0), (jJ 0), (jJ 0), (jJ 0)]) :: (rt4, Own.ArrC Z (.object "java/math/BigDecimal") [.null, .null, .null, .null, .null, .null, .null, .null, .null, .null, .null, .null, .null, .null, .null, .null]) :: fr) := O38.pick 8 rfl
  exact Own.retV hx hret hlk (hb hby d1_44) (by decide) (by decide) ⟨a9, a14, a19, a24, op1, ra2, rb3, rt4, rfl, O39⟩

theorem d6_0 : decode prog_144_method_16_code 0 = .ok (.aload_n 0, 1) := by decide +kernel
theorem d6_1 : decode prog_144_method_16_code 1 = .ok (.getfield 56, 3) := by decide +kernel
theorem d6_4 : decode prog_144_method_16_code 4 = .ok (.aload_n 0, 1) := by decide +kernel
theorem d6_5 : decode prog_144_method_16_code 5 = .ok (.getfield 19, 3) := by decide +kernel
theorem d6_8 : decode prog_144_method_16_code 8 = .ok (.arraylength, 1) := by decide +kernel
theorem d6_9 : decode prog_144_method_16_code 9 = .ok (.if_icmp .ne 54, 3) := by decide +kernel
theorem d6_63 : decode prog_144_method_16_code 63 = .ok (.aload_n 0, 1) := by decide +kernel
theorem d6_64 : decode prog_144_method_16_code 64 = .ok (.getfield 19, 3) := by decide +kernel
theorem d6_67 : decode prog_144_method_16_code 67 = .ok (.aload_n 0, 1) := by decide +kernel
theorem d6_68 : decode prog_144_method_16_code 68 = .ok (.getfield 56, 3) := by decide +kernel
theorem d6_71 : decode prog_144_method_16_code 71 = .ok (.iconst 1, 1) := by decide +kernel
theorem d6_72 : decode prog_144_method_16_code 72 = .ok (.iastore, 1) := by decide +kernel
theorem d6_73 : decode prog_144_method_16_code 73 = .ok (.aload_n 0, 1) := by decide +kernel
theorem d6_74 : decode prog_144_method_16_code 74 = .ok (.getfield 23, 3) := by decide +kernel
theorem d6_77 : decode prog_144_method_16_code 77 = .ok (.aload_n 0, 1) := by decide +kernel
theorem d6_78 : decode prog_144_method_16_code 78 = .ok (.dup, 1) := by decide +kernel
theorem d6_79 : decode prog_144_method_16_code 79 = .ok (.getfield 56, 3) := by decide +kernel
theorem d6_82 : decode prog_144_method_16_code 82 = .ok (.dup_x1, 1) := by decide +kernel
theorem d6_83 : decode prog_144_method_16_code 83 = .ok (.iconst 1, 1) := by decide +kernel
theorem d6_84 : decode prog_144_method_16_code 84 = .ok (.iadd, 1) := by decide +kernel
theorem d6_85 : decode prog_144_method_16_code 85 = .ok (.putfield 56, 3) := by decide +kernel
theorem d6_88 : decode prog_144_method_16_code 88 = .ok (.iload_n 1, 1) := by decide +kernel
theorem d6_89 : decode prog_144_method_16_code 89 = .ok (.iastore, 1) := by decide +kernel
theorem d6_90 : decode prog_144_method_16_code 90 = .ok (.return_, 1) := by decide +kernel
theorem pn7 : plainFor (⟨"com/example/tracewarden/tracewarden/monitor/WindowEntries", "addStretch", "(I)V"⟩ : MethodName) = true := by first | exact plainFor_of_name (by simp [plainName, overriddenIn]; done) | decide +kernel
theorem ef6_0 (m : MethodId) (x0 : Addr) (x1 : Int32) : entryFrame m #[(.ref x0), (.int x1)] 2 = mkF m 0 #[.val (.ref x0), .val (.int x1)] [] := by first | (simp [entryFrame, mkF, argsToLocals, Value.category]; done) | rfl
set_option maxRecDepth 65536 in
set_option maxHeartbeats 40000000 in
theorem rm6_0 (l : Launch) (Z : State) (a0 : Array Value) (hw : ∀ d ∈ tables_1, d.before a0 Z = true) (o0 : Addr) (p1 : Int32) (h0 : Heap) (n0 : Nat) (op oc of' ol ok : Addr) (fr : List (Addr × (Cell → Prop))) (O0 : Own.Owns n0 h0 ((o0, WEo Z (.ref op) (.ref oc) (.ref of') (.ref ol) (.ref ok) (iI 0) (iI 0) (iI 0) (iI 0)) :: (oc, Own.ArrC Z .int [(iI 0), (iI 0), (iI 0), (iI 0)]) :: (of', Own.ArrC Z .int [(iI 0), (iI 0), (iI 0), (iI 0)]) :: (ol, Own.ArrC Z .int [(iI 0), (iI 0), (iI 0), (iI 0)]) :: fr))  : Own.Does l (⟨"com/example/tracewarden/tracewarden/monitor/WindowEntries", "addStretch", "(I)V"⟩ : MethodName) prog_144_method_16_code 2 none [] ({ frames := 0, cells := 0, slots := 0, locals := 0 } : Room) Z #[(.ref o0), (.int p1)] h0 n0 (fun v h => ∃ oc2 of2 ol2, v = none ∧ Own.Owns n0 h ((o0, WEo Z (.ref op) (.ref oc2) (.ref of2) (.ref ol2) (.ref ok) (iI 0) (iI 1) (iI 0) (iI 0)) :: (oc2, Own.ArrC Z .int [(iI 1), (iI 0), (iI 0), (iI 0)]) :: (of2, Own.ArrC Z .int [(.int p1), (iI 0), (iI 0), (iI 0)]) :: (ol2, Own.ArrC Z .int [(iI 0), (iI 0), (iI 0), (iI 0)]) :: fr)) := by
  refine Own.doesOf pn7 ?_
  intro p e s m below meth c hx hby hml hret hlk hown hnm hZ
  refine Own.Goes.cast (ef6_0 m o0 p1) ?_
  refine Own.aloadN hx (.ref o0) (hb hby d6_0) rfl rfl rfl ?_
  refine Own.getfield hx hZ hown O0 0 6 rfl rfl (hw _ (wm 55 rfl)) (hb hby d6_1) rfl ?_
  refine Own.aloadN hx (.ref o0) (hb hby d6_4) rfl rfl rfl ?_
  refine Own.getfield hx hZ hown O0 0 1 rfl rfl (hw _ (wm 36 rfl)) (hb hby d6_5) rfl ?_
  refine Own.arrlen hx hZ O0 1 rfl (4 : Int32) rfl (hb hby d6_8) rfl ?_
  have hc1 : ¬ ((0 : Int32) = (4 : Int32)) := by decide
  refine Own.icmpFn hx (Own.q_ne (0 : Int32) (4 : Int32)) (hb hby d6_9) (pcN := 12) rfl (by decide) (pcT := 63) rfl (fun _ => ?_) (fun q => absurd q hc1)
  refine Own.aloadN hx (.ref o0) (hb hby d6_63) rfl rfl rfl ?_
  refine Own.getfield hx hZ hown O0 0 1 rfl rfl (hw _ (wm 36 rfl)) (hb hby d6_64) rfl ?_
  refine Own.aloadN hx (.ref o0) (hb hby d6_67) rfl rfl rfl ?_
  refine Own.getfield hx hZ hown O0 0 6 rfl rfl (hw _ (wm 55 rfl)) (hb hby d6_68) rfl ?_
  refine Own.iconst hx (1 : Int32) (hb hby d6_71) rfl (by decide) ?_
  refine Own.iastore hx hZ O0 1 0 rfl (by decide) (by exact (show 0 < 4 by decide)) ((o0, WEo Z (.ref op) (.ref oc) (.ref of') (.ref ol) (.ref ok) (iI 0) (iI 0) (iI 0) (iI 0)) :: (oc, Own.ArrC Z .int [(iI 1), (iI 0), (iI 0), (iI 0)]) :: (of', Own.ArrC Z .int [(iI 0), (iI 0), (iI 0), (iI 0)]) :: (ol, Own.ArrC Z .int [(iI 0), (iI 0), (iI 0), (iI 0)]) :: fr) rfl (hb hby d6_72) rfl ?_
  intro h3 O4
  refine Own.aloadN hx (.ref o0) (hb hby d6_73) rfl rfl rfl ?_
  refine Own.getfield hx hZ hown O4 0 2 rfl rfl (hw _ (wm 38 rfl)) (hb hby d6_74) rfl ?_
  refine Own.aloadN hx (.ref o0) (hb hby d6_77) rfl rfl rfl ?_
  refine Own.dup hx (hb hby d6_78) rfl rfl ?_
  refine Own.getfield hx hZ hown O4 0 6 rfl rfl (hw _ (wm 55 rfl)) (hb hby d6_79) rfl ?_
  refine Own.dupX1 hx (hb hby d6_82) rfl rfl rfl ?_
  refine Own.iconst hx (1 : Int32) (hb hby d6_83) rfl (by decide) ?_
  refine Own.iadd hx (hb hby d6_84) rfl ?_
  refine Own.vI (1 : Int32) (by decide) ?_
  refine Own.putfield hx hZ hown O4 0 6 rfl rfl (hw _ (wm 55 rfl)) (Or.inl (hw _ (wm 56 rfl))) (hw _ (wm 2 rfl)) (ty := .int) (by decide) rfl rfl ((o0, WEo Z (.ref op) (.ref oc) (.ref of') (.ref ol) (.ref ok) (iI 0) (iI 1) (iI 0) (iI 0)) :: (oc, Own.ArrC Z .int [(iI 1), (iI 0), (iI 0), (iI 0)]) :: (of', Own.ArrC Z .int [(iI 0), (iI 0), (iI 0), (iI 0)]) :: (ol, Own.ArrC Z .int [(iI 0), (iI 0), (iI 0), (iI 0)]) :: fr) rfl (hb hby d6_85) rfl ?_
  intro h5 O6
  refine Own.iloadN hx p1 (hb hby d6_88) rfl rfl ?_
  refine Own.iastore hx hZ O6 2 0 rfl (by decide) (by exact (show 0 < 4 by decide)) ((o0, WEo Z (.ref op) (.ref oc) (.ref of') (.ref ol) (.ref ok) (iI 0) (iI 1) (iI 0) (iI 0)) :: (oc, Own.ArrC Z .int [(iI 1), (iI 0), (iI 0), (iI 0)]) :: (of', Own.ArrC Z .int [(.int p1), (iI 0), (iI 0), (iI 0)]) :: (ol, Own.ArrC Z .int [(iI 0), (iI 0), (iI 0), (iI 0)]) :: fr) rfl (hb hby d6_89) rfl ?_
  intro h7 O8
  have O9 : Own.Owns n0 h7 ((ol, Own.ArrC Z .int [(iI 0), (iI 0), (iI 0), (iI 0)]) :: (o0, WEo Z (.ref op) (.ref oc) (.ref of') (.ref ol) (.ref ok) (iI 0) (iI 1) (iI 0) (iI 0)) :: (oc, Own.ArrC Z .int [(iI 1), (iI 0), (iI 0), (iI 0)]) :: (of', Own.ArrC Z .int [(.int p1), (iI 0), (iI 0), (iI 0)]) :: fr) := O8.pick 3 rfl
  have O10 : Own.Owns n0 h7 ((of', Own.ArrC Z .int [(.int p1), (iI 0), (iI 0), (iI 0)]) :: (ol, Own.ArrC Z .int [(iI 0), (iI 0), (iI 0), (iI 0)]) :: (o0, WEo Z (.ref op) (.ref oc) (.ref of') (.ref ol) (.ref ok) (iI 0) (iI 1) (iI 0) (iI 0)) :: (oc, Own.ArrC Z .int [(iI 1), (iI 0), (iI 0), (iI 0)]) :: fr) := O9.pick 3 rfl
  have O11 : Own.Owns n0 h7 ((oc, Own.ArrC Z .int [(iI 1), (iI 0), (iI 0), (iI 0)]) :: (of', Own.ArrC Z .int [(.int p1), (iI 0), (iI 0), (iI 0)]) :: (ol, Own.ArrC Z .int [(iI 0), (iI 0), (iI 0), (iI 0)]) :: (o0, WEo Z (.ref op) (.ref oc) (.ref of') (.ref ol) (.ref ok) (iI 0) (iI 1) (iI 0) (iI 0)) :: fr) := O10.pick 3 rfl
  have O12 : Own.Owns n0 h7 ((o0, WEo Z (.ref op) (.ref oc) (.ref of') (.ref ol) (.ref ok) (iI 0) (iI 1) (iI 0) (iI 0)) :: (oc, Own.ArrC Z .int [(iI 1), (iI 0), (iI 0), (iI 0)]) :: (of', Own.ArrC Z .int [(.int p1), (iI 0), (iI 0), (iI 0)]) :: (ol, Own.ArrC Z .int [(iI 0), (iI 0), (iI 0), (iI 0)]) :: fr) := O11.pick 3 rfl
  exact Own.retV hx hret hlk (hb hby d6_90) (by decide) (by decide) ⟨oc, of', ol, rfl, O12⟩

theorem pd3 : parseMethodDescriptor "(I)V" = some ⟨[.int], none⟩ := by decide +kernel
theorem pd4 : parseMethodDescriptor "(JLjava/math/BigDecimal;)V" = some ⟨[.long, (.object "java/math/BigDecimal")], none⟩ := by decide +kernel
theorem d5_0 : decode prog_144_method_14_code 0 = .ok (.aload_n 0, 1) := by decide +kernel
theorem d5_1 : decode prog_144_method_14_code 1 = .ok (.iload 4, 2) := by decide +kernel
theorem d5_3 : decode prog_144_method_14_code 3 = .ok (.invokevirtual 65, 3) := by decide +kernel
theorem d5_6 : decode prog_144_method_14_code 6 = .ok (.aload_n 0, 1) := by decide +kernel
theorem d5_7 : decode prog_144_method_14_code 7 = .ok (.getfield 13, 3) := by decide +kernel
theorem d5_10 : decode prog_144_method_14_code 10 = .ok (.lload_n 1, 1) := by decide +kernel
theorem d5_11 : decode prog_144_method_14_code 11 = .ok (.aload_n 3, 1) := by decide +kernel
theorem d5_12 : decode prog_144_method_14_code 12 = .ok (.invokevirtual 69, 3) := by decide +kernel
theorem d5_15 : decode prog_144_method_14_code 15 = .ok (.return_, 1) := by decide +kernel
theorem pn8 : plainFor (⟨"com/example/tracewarden/tracewarden/monitor/WindowEntries", "add", "(JLjava/math/BigDecimal;I)V"⟩ : MethodName) = true := by first | exact plainFor_of_name (by simp [plainName, overriddenIn]; done) | decide +kernel
theorem ef5_0 (m : MethodId) (x0 : Addr) (x1 : Int64) (x3 : Int32) : entryFrame m #[(.ref x0), (.long x1), .null, (.int x3)] 5 = mkF m 0 #[.val (.ref x0), .val (.long x1), .second, .val .null, .val (.int x3)] [] := by first | (simp [entryFrame, mkF, argsToLocals, Value.category]; done) | rfl
set_option maxRecDepth 65536 in
set_option maxHeartbeats 40000000 in
theorem rm5_0 (l : Launch) (Z : State) (a0 : Array Value) (hw : ∀ d ∈ tables_1, d.before a0 Z = true) (o0 : Addr) (p3 : Int32) (h0 : Heap) (n0 : Nat) (oc of' ol ok op ra rb rt : Addr) (fr : List (Addr × (Cell → Prop))) (O0 : Own.Owns n0 h0 ((o0, WEo Z (.ref op) (.ref oc) (.ref of') (.ref ol) (.ref ok) (iI 0) (iI 0) (iI 0) (iI 0)) :: (oc, Own.ArrC Z .int [(iI 0), (iI 0), (iI 0), (iI 0)]) :: (of', Own.ArrC Z .int [(iI 0), (iI 0), (iI 0), (iI 0)]) :: (ol, Own.ArrC Z .int [(iI 0), (iI 0), (iI 0), (iI 0)]) :: (ok, Own.ArrC Z .long [(jJ 0), (jJ 0), (jJ 0), (jJ 0)]) :: (op, OPo Z (.ref ra) (.ref rb) (iI (-1)) (iI (-1)) (.ref rt) (iI 0) (iI 0)) :: (ra, Own.ArrC Z .long [(jJ 0), (jJ 0), (jJ 0), (jJ 0), (jJ 0), (jJ 0), (jJ 0), (jJ 0), (jJ 0), (jJ 0), (jJ 0), (jJ 0), (jJ 0), (jJ 0), (jJ 0), (jJ 0)]) :: (rb, Own.ArrC Z .long [(jJ 0), (jJ 0), (jJ 0), (jJ 0), (jJ 0), (jJ 0), (jJ 0), (jJ 0), (jJ 0), (jJ 0), (jJ 0), (jJ 0), (jJ 0), (jJ 0), (jJ 0), (jJ 0)]) :: (rt, Own.ArrC Z (.object "java/math/BigDecimal") [.null, .null, .null, .null, .null, .null, .null, .null, .null, .null, .null, .null, .null, .null, .null, .null]) :: fr))  : Own.Does l (⟨"com/example/tracewarden/tracewarden/monitor/WindowEntries", "add", "(JLjava/math/BigDecimal;I)V"⟩ : MethodName) prog_144_method_14_code 5 none [] ({ frames := 2, cells := 0, slots := 0, locals := 30 } : Room) Z #[(.ref o0), (.long (0 : Int64)), .null, (.int p3)] h0 n0 (fun v h => ∃ oc2 of2 ol2, v = none ∧ Own.Owns n0 h ((o0, WEo Z (.ref op) (.ref oc2) (.ref of2) (.ref ol2) (.ref ok) (iI 0) (iI 1) (iI 0) (iI 0)) :: (oc2, Own.ArrC Z .int [(iI 1), (iI 0), (iI 0), (iI 0)]) :: (of2, Own.ArrC Z .int [(.int p3), (iI 0), (iI 0), (iI 0)]) :: (ol2, Own.ArrC Z .int [(iI 0), (iI 0), (iI 0), (iI 0)]) :: (ok, Own.ArrC Z .long [(jJ 0), (jJ 0), (jJ 0), (jJ 0)]) :: (op, OPo Z (.ref ra) (.ref rb) (iI (-1)) (iI (-1)) (.ref rt) (iI 1) (iI 0)) :: (ra, Own.ArrC Z .long [(jJ 0), (jJ 0), (jJ 0), (jJ 0), (jJ 0), (jJ 0), (jJ 0), (jJ 0), (jJ 0), (jJ 0), (jJ 0), (jJ 0), (jJ 0), (jJ 0), (jJ 0), (jJ 0)]) :: (rb, Own.ArrC Z .long [(jJ 0), (jJ 0), (jJ 0), (jJ 0), (jJ 0), (jJ 0), (jJ 0), (jJ 0), (jJ 0), (jJ 0), (jJ 0), (jJ 0), (jJ 0), (jJ 0), (jJ 0), (jJ 0)]) :: (rt, Own.ArrC Z (.object "java/math/BigDecimal") [.null, .null, .null, .null, .null, .null, .null, .null, .null, .null, .null, .null, .null, .null, .null, .null]) :: fr)) := by
  refine Own.doesOf pn8 ?_
  intro p e s m below meth c hx hby hml hret hlk hown hnm hZ
  refine Own.Goes.cast (ef5_0 m o0 (0 : Int64) p3) ?_
  refine Own.aloadN hx (.ref o0) (hb hby d5_0) rfl rfl rfl ?_
  refine Own.iload hx p3 (hb hby d5_1) rfl rfl ?_
  have O4 : Own.Owns n0 h0 ((ol, Own.ArrC Z .int [(iI 0), (iI 0), (iI 0), (iI 0)]) :: (o0, WEo Z (.ref op) (.ref oc) (.ref of') (.ref ol) (.ref ok) (iI 0) (iI 0) (iI 0) (iI 0)) :: (oc, Own.ArrC Z .int [(iI 0), (iI 0), (iI 0), (iI 0)]) :: (of', Own.ArrC Z .int [(iI 0), (iI 0), (iI 0), (iI 0)]) :: (ok, Own.ArrC Z .long [(jJ 0), (jJ 0), (jJ 0), (jJ 0)]) :: (op, OPo Z (.ref ra) (.ref rb) (iI (-1)) (iI (-1)) (.ref rt) (iI 0) (iI 0)) :: (ra, Own.ArrC Z .long [(jJ 0), (jJ 0), (jJ 0), (jJ 0), (jJ 0), (jJ 0), (jJ 0), (jJ 0), (jJ 0), (jJ 0), (jJ 0), (jJ 0), (jJ 0), (jJ 0), (jJ 0), (jJ 0)]) :: (rb, Own.ArrC Z .long [(jJ 0), (jJ 0), (jJ 0), (jJ 0), (jJ 0), (jJ 0), (jJ 0), (jJ 0), (jJ 0), (jJ 0), (jJ 0), (jJ 0), (jJ 0), (jJ 0), (jJ 0), (jJ 0)]) :: (rt, Own.ArrC Z (.object "java/math/BigDecimal") [.null, .null, .null, .null, .null, .null, .null, .null, .null, .null, .null, .null, .null, .null, .null, .null]) :: fr) := O0.pick 3 rfl
  have O5 : Own.Owns n0 h0 ((of', Own.ArrC Z .int [(iI 0), (iI 0), (iI 0), (iI 0)]) :: (ol, Own.ArrC Z .int [(iI 0), (iI 0), (iI 0), (iI 0)]) :: (o0, WEo Z (.ref op) (.ref oc) (.ref of') (.ref ol) (.ref ok) (iI 0) (iI 0) (iI 0) (iI 0)) :: (oc, Own.ArrC Z .int [(iI 0), (iI 0), (iI 0), (iI 0)]) :: (ok, Own.ArrC Z .long [(jJ 0), (jJ 0), (jJ 0), (jJ 0)]) :: (op, OPo Z (.ref ra) (.ref rb) (iI (-1)) (iI (-1)) (.ref rt) (iI 0) (iI 0)) :: (ra, Own.ArrC Z .long [(jJ 0), (jJ 0), (jJ 0), (jJ 0), (jJ 0), (jJ 0), (jJ 0), (jJ 0), (jJ 0), (jJ 0), (jJ 0), (jJ 0), (jJ 0), (jJ 0), (jJ 0), (jJ 0)]) :: (rb, Own.ArrC Z .long [(jJ 0), (jJ 0), (jJ 0), (jJ 0), (jJ 0), (jJ 0), (jJ 0), (jJ 0), (jJ 0), (jJ 0), (jJ 0), (jJ 0), (jJ 0), (jJ 0), (jJ 0), (jJ 0)]) :: (rt, Own.ArrC Z (.object "java/math/BigDecimal") [.null, .null, .null, .null, .null, .null, .null, .null, .null, .null, .null, .null, .null, .null, .null, .null]) :: fr) := O4.pick 3 rfl
  have O6 : Own.Owns n0 h0 ((oc, Own.ArrC Z .int [(iI 0), (iI 0), (iI 0), (iI 0)]) :: (of', Own.ArrC Z .int [(iI 0), (iI 0), (iI 0), (iI 0)]) :: (ol, Own.ArrC Z .int [(iI 0), (iI 0), (iI 0), (iI 0)]) :: (o0, WEo Z (.ref op) (.ref oc) (.ref of') (.ref ol) (.ref ok) (iI 0) (iI 0) (iI 0) (iI 0)) :: (ok, Own.ArrC Z .long [(jJ 0), (jJ 0), (jJ 0), (jJ 0)]) :: (op, OPo Z (.ref ra) (.ref rb) (iI (-1)) (iI (-1)) (.ref rt) (iI 0) (iI 0)) :: (ra, Own.ArrC Z .long [(jJ 0), (jJ 0), (jJ 0), (jJ 0), (jJ 0), (jJ 0), (jJ 0), (jJ 0), (jJ 0), (jJ 0), (jJ 0), (jJ 0), (jJ 0), (jJ 0), (jJ 0), (jJ 0)]) :: (rb, Own.ArrC Z .long [(jJ 0), (jJ 0), (jJ 0), (jJ 0), (jJ 0), (jJ 0), (jJ 0), (jJ 0), (jJ 0), (jJ 0), (jJ 0), (jJ 0), (jJ 0), (jJ 0), (jJ 0), (jJ 0)]) :: (rt, Own.ArrC Z (.object "java/math/BigDecimal") [.null, .null, .null, .null, .null, .null, .null, .null, .null, .null, .null, .null, .null, .null, .null, .null]) :: fr) := O5.pick 3 rfl
  have O7 : Own.Owns n0 h0 ((o0, WEo Z (.ref op) (.ref oc) (.ref of') (.ref ol) (.ref ok) (iI 0) (iI 0) (iI 0) (iI 0)) :: (oc, Own.ArrC Z .int [(iI 0), (iI 0), (iI 0), (iI 0)]) :: (of', Own.ArrC Z .int [(iI 0), (iI 0), (iI 0), (iI 0)]) :: (ol, Own.ArrC Z .int [(iI 0), (iI 0), (iI 0), (iI 0)]) :: (ok, Own.ArrC Z .long [(jJ 0), (jJ 0), (jJ 0), (jJ 0)]) :: (op, OPo Z (.ref ra) (.ref rb) (iI (-1)) (iI (-1)) (.ref rt) (iI 0) (iI 0)) :: (ra, Own.ArrC Z .long [(jJ 0), (jJ 0), (jJ 0), (jJ 0), (jJ 0), (jJ 0), (jJ 0), (jJ 0), (jJ 0), (jJ 0), (jJ 0), (jJ 0), (jJ 0), (jJ 0), (jJ 0), (jJ 0)]) :: (rb, Own.ArrC Z .long [(jJ 0), (jJ 0), (jJ 0), (jJ 0), (jJ 0), (jJ 0), (jJ 0), (jJ 0), (jJ 0), (jJ 0), (jJ 0), (jJ 0), (jJ 0), (jJ 0), (jJ 0), (jJ 0)]) :: (rt, Own.ArrC Z (.object "java/math/BigDecimal") [.null, .null, .null, .null, .null, .null, .null, .null, .null, .null, .null, .null, .null, .null, .null, .null]) :: fr) := O6.pick 3 rfl
  refine Own.callP hx hZ hown (O7.exa (i := 0) rfl) (hw _ (wm 51 rfl)) (hw _ (wm 52 rfl)) (hw _ (wm 2 rfl)) (hw _ (wm 53 rfl)) (hw _ (wm 3 rfl)) (hw _ (wm 54 rfl)) (by decide) pd3 (argsL := [(.int p3)]) (rest := []) rfl (W := 0) (Nat.le_of_eq rfl) (rm := ({ frames := 0, cells := 0, slots := 0, locals := 0 } : Room)) (by decide) (by decide) (by decide) (by decide) (k' := 0) (n' := 0) rfl rfl (by rw [hml]; rfl) [(.int p3), (.ref o0)] rfl (hb hby d5_3) (pc' := 6) rfl (rm6_0 l Z a0 hw o0 p3 h0 n0 op oc of' ol ok ((ok, Own.ArrC Z .long [(jJ 0), (jJ 0), (jJ 0), (jJ 0)]) :: (op, OPo Z (.ref ra) (.ref rb) (iI (-1)) (iI (-1)) (.ref rt) (iI 0) (iI 0)) :: (ra, Own.ArrC Z .long [(jJ 0), (jJ 0), (jJ 0), (jJ 0), (jJ 0), (jJ 0), (jJ 0), (jJ 0), (jJ 0), (jJ 0), (jJ 0), (jJ 0), (jJ 0), (jJ 0), (jJ 0), (jJ 0)]) :: (rb, Own.ArrC Z .long [(jJ 0), (jJ 0), (jJ 0), (jJ 0), (jJ 0), (jJ 0), (jJ 0), (jJ 0), (jJ 0), (jJ 0), (jJ 0), (jJ 0), (jJ 0), (jJ 0), (jJ 0), (jJ 0)]) :: (rt, Own.ArrC Z (.object "java/math/BigDecimal") [.null, .null, .null, .null, .null, .null, .null, .null, .null, .null, .null, .null, .null, .null, .null, .null]) :: fr) O7) ?_
  rintro _ h8 ⟨oc1, of2, ol3, rfl, O9⟩
  show Own.Goes _ _ _ _ _ _ _ _ _ _ _ _ _ _ _ _ _ (mkF m 6 #[.val (.ref o0), .val (.long (0 : Int64)), .second, .val .null, .val (.int p3)] [])
  refine Own.aloadN hx (.ref o0) (hb hby d5_6) rfl rfl rfl ?_
  refine Own.getfield hx hZ hown O9 0 0 rfl rfl (hw _ (wm 33 rfl)) (hb hby d5_7) rfl ?_
  refine Own.lloadN hx (0 : Int64) (hb hby d5_10) rfl rfl ?_
  refine Own.aloadN hx .null (hb hby d5_11) rfl rfl rfl ?_
  have O10 : Own.Owns n0 h8 ((rt, Own.ArrC Z (.object "java/math/BigDecimal") [.null, .null, .null, .null, .null, .null, .null, .null, .null, .null, .null, .null, .null, .null, .null, .null]) :: (o0, WEo Z (.ref op) (.ref oc1) (.ref of2) (.ref ol3) (.ref ok) (iI 0) (iI 1) (iI 0) (iI 0)) :: (oc1, Own.ArrC Z .int [(iI 1), (iI 0), (iI 0), (iI 0)]) :: (of2, Own.ArrC Z .int [(.int p3), (iI 0), (iI 0), (iI 0)]) :: (ol3, Own.ArrC Z .int [(iI 0), (iI 0), (iI 0), (iI 0)]) :: (ok, Own.ArrC Z .long [(jJ 0), (jJ 0), (jJ 0), (jJ 0)]) :: (op, OPo Z (.ref ra) (.ref rb) (iI (-1)) (iI (-1)) (.ref rt) (iI 0) (iI 0)) :: (ra, Own.ArrC Z .long [(jJ 0), (jJ 0), (jJ 0), (jJ 0), (jJ 0), (jJ 0), (jJ 0), (jJ 0), (jJ 0), (jJ 0), (jJ 0), (jJ 0), (jJ 0), (jJ 0), (jJ 0), (jJ 0)]) :: (rb, Own.ArrC Z .long [(jJ 0), (jJ 0), (jJ 0), (jJ 0), (jJ 0), (jJ 0), (jJ 0), (jJ 0), (jJ 0), (jJ 0), (jJ 0), (jJ 0), (jJ 0), (jJ 0), (jJ 0), (jJ 0)]) :: fr) := O9.pick 8 rfl
  have O11 : Own.Owns n0 h8 ((rb, Own.ArrC Z .long [(jJ 0), (jJ 0), (jJ 0), (jJ 0), (jJ 0), (jJ 0), (jJ 0), (jJ 0), (jJ 0), (jJ 0), (jJ 0), (jJ 0), (jJ 0), (jJ 0), (jJ 0), (jJ 0)]) :: (rt, Own.ArrC Z (.object "java/math/BigDecimal") [.null, .null, .null, .null, .null, .null, .null, .null, .null, .null, .null, .null, .null, .null, .null, .null]) :: (o0, WEo Z (.ref op) (.ref oc1) (.ref of2) (.ref ol3) (.ref ok) (iI 0) (iI 1) (iI 0) (iI 0)) :: (oc1, Own.ArrC Z .int [(iI 1), (iI 0), (iI 0), (iI 0)]) :: (of2, Own.ArrC Z .int [(.int p3), (iI 0), (iI 0), (iI 0)]) :: (ol3, Own.ArrC Z .int [(iI 0), (iI 0), (iI 0), (iI 0)]) :: (ok, Own.ArrC Z .long [(jJ 0), (jJ 0), (jJ 0), (jJ 0)]) :: (op, OPo Z (.ref ra) (.ref rb) (iI (-1)) (iI (-1)) (.ref rt) (iI 0) (iI 0)) :: (ra, Own.ArrC Z .long [(jJ 0), (jJ 0), (jJ 0), (jJ 0), (jJ 0), (jJ 0), (jJ 0), (jJ 0), (jJ 0), (jJ 0), (jJ 0), (jJ 0), (jJ 0), (jJ 0), (jJ 0), (jJ 0)]) :: fr) := O10.pick 8 rfl
  have O12 : Own.Owns n0 h8 ((ra, Own.ArrC Z .long [(jJ 0), (jJ 0), (jJ 0), (jJ 0), (jJ 0), (jJ 0), (jJ 0), (jJ 0), (jJ 0), (jJ 0), (jJ 0), (jJ 0), (jJ 0), (jJ 0), (jJ 0), (jJ 0)]) :: (rb, Own.ArrC Z .long [(jJ 0), (jJ 0), (jJ 0), (jJ 0), (jJ 0), (jJ 0), (jJ 0), (jJ 0), (jJ 0), (jJ 0), (jJ 0), (jJ 0), (jJ 0), (jJ 0), (jJ 0), (jJ 0)]) :: (rt, Own.ArrC Z (.object "java/math/BigDecimal") [.null, .null, .null, .null, .null, .null, .null, .null, .null, .null, .null, .null, .null, .null, .null, .null]) :: (o0, WEo Z (.ref op) (.ref oc1) (.ref of2) (.ref ol3) (.ref ok) (iI 0) (iI 1) (iI 0) (iI 0)) :: (oc1, Own.ArrC Z .int [(iI 1), (iI 0), (iI 0), (iI 0)]) :: (of2, Own.ArrC Z .int [(.int p3), (iI 0), (iI 0), (iI 0)]) :: (ol3, Own.ArrC Z .int [(iI 0), (iI 0), (iI 0), (iI 0)]) :: (ok, Own.ArrC Z .long [(jJ 0), (jJ 0), (jJ 0), (jJ 0)]) :: (op, OPo Z (.ref ra) (.ref rb) (iI (-1)) (iI (-1)) (.ref rt) (iI 0) (iI 0)) :: fr) := O11.pick 8 rfl
  have O13 : Own.Owns n0 h8 ((op, OPo Z (.ref ra) (.ref rb) (iI (-1)) (iI (-1)) (.ref rt) (iI 0) (iI 0)) :: (ra, Own.ArrC Z .long [(jJ 0), (jJ 0), (jJ 0), (jJ 0), (jJ 0), (jJ 0), (jJ 0), (jJ 0), (jJ 0), (jJ 0), (jJ 0), (jJ 0), (jJ 0), (jJ 0), (jJ 0), (jJ 0)]) :: (rb, Own.ArrC Z .long [(jJ 0), (jJ 0), (jJ 0), (jJ 0), (jJ 0), (jJ 0), (jJ 0), (jJ 0), (jJ 0), (jJ 0), (jJ 0), (jJ 0), (jJ 0), (jJ 0), (jJ 0), (jJ 0)]) :: (rt, Own.ArrC Z (.object "java/math/BigDecimal") [.null, .null, .null, .null, .null, .null, .null, .null, .null, .null, .null, .null, .null, .null, .null, .null]) :: (o0, WEo Z (.ref op) (.ref oc1) (.ref of2) (.ref ol3) (.ref ok) (iI 0) (iI 1) (iI 0) (iI 0)) :: (oc1, Own.ArrC Z .int [(iI 1), (iI 0), (iI 0), (iI 0)]) :: (of2, Own.ArrC Z .int [(.int p3), (iI 0), (iI 0), (iI 0)]) :: (ol3, Own.ArrC Z .int [(iI 0), (iI 0), (iI 0), (iI 0)]) :: (ok, Own.ArrC Z .long [(jJ 0), (jJ 0), (jJ 0), (jJ 0)]) :: fr) := O12.pick 8 rfl
  refine Own.callV hx hZ hown (O13.exa (i := 0) rfl) (hw _ (wm 57 rfl)) (hw _ (wm 58 rfl)) (hw _ (wm 60 rfl)) (hw _ (wm 59 rfl)) (hw _ (wm 12 rfl)) (hw _ (wm 61 rfl)) (by decide) pd4 (argsL := [(.long (0 : Int64)), .null]) (rest := []) rfl (W := 0) (Nat.le_of_eq rfl) (rm := ({ frames := 1, cells := 0, slots := 0, locals := 12 } : Room)) (by decide) (by decide) (by decide) (by decide) (k' := 0) (n' := 0) rfl rfl (by rw [hml]; rfl) [.null, (.long (0 : Int64)), (.ref op)] rfl (hb hby d5_12) (pc' := 15) rfl (rm7_0 l Z a0 hw op h8 n0 ra rb rt ((o0, WEo Z (.ref op) (.ref oc1) (.ref of2) (.ref ol3) (.ref ok) (iI 0) (iI 1) (iI 0) (iI 0)) :: (oc1, Own.ArrC Z .int [(iI 1), (iI 0), (iI 0), (iI 0)]) :: (of2, Own.ArrC Z .int [(.int p3), (iI 0), (iI 0), (iI 0)]) :: (ol3, Own.ArrC Z .int [(iI 0), (iI 0), (iI 0), (iI 0)]) :: (ok, Own.ArrC Z .long [(jJ 0), (jJ 0), (jJ 0), (jJ 0)]) :: fr) O13) ?_
  rintro _ h14 ⟨rfl, O15⟩
  show Own.Goes _ _ _ _ _ _ _ _ _ _ _ _ _ _ _ _ _ (mkF m 15 #[.val (.ref o0), .val (.long (0 : Int64)), .second, .val .null, .val (.int p3)] [])
  have O16 : Own.Owns n0 h14 ((rt, Own.ArrC Z (.object "java/math/BigDecimal") [.null, .null, .null, .null, .null, .null, .null, .null, .null, .null, .null, .null, .null, .null, .null, .null]) :: (op, OPo Z (.ref ra) (.ref rb) (iI (-1)) (iI (-1)) (.ref rt) (iI 1) (iI 0)) :: (ra, Own.ArrC Z .long [(jJ 0), (jJ 0), (jJ 0), (jJ 0), (jJ 0), (jJ 0), (jJ 0), (jJ 0), (jJ 0), (jJ 0), (jJ 0), (jJ 0), (jJ 0), (jJ 0), (jJ 0), (jJ 0)]) :: (rb, Own.ArrC Z .long [(jJ 0), (jJ 0), (jJ 0), (jJ 0), (jJ 0), (jJ 0), (jJ 0), (jJ 0), (jJ 0), (jJ 0), (jJ 0), (jJ 0), (jJ 0), (jJ 0), (jJ 0), (jJ 0)]) :: (o0, WEo Z (.ref op) (.ref oc1) (.ref of2) (.ref ol3) (.ref ok) (iI 0) (iI 1) (iI 0) (iI 0)) :: (oc1, Own.ArrC Z .int [(iI 1), (iI 0), (iI 0), (iI 0)]) :: (of2, Own.ArrC Z .int [(.int p3), (iI 0), (iI 0), (iI 0)]) :: (ol3, Own.ArrC Z .int [(iI 0), (iI 0), (iI 0), (iI 0)]) :: (ok, Own.ArrC Z .long [(jJ 0), (jJ 0), (jJ 0), (jJ 0)]) :: fr) := O15.pick 3 rfl
  have O17 : Own.Owns n0 h14 ((rb, Own.ArrC Z .long [(jJ 0), (jJ 0), (jJ 0), (jJ 0), (jJ 0), (jJ 0), (jJ 0), (jJ 0), (jJ 0), (jJ 0), (jJ 0), (jJ 0), (jJ 0), (jJ 0), (jJ 0), (jJ 0)]) :: (rt, Own.ArrC Z (.object "java/math/BigDecimal") [.null, .null, .null, .null, .null, .null, .null, .null, .null, .null, .null, .null, .null, .null, .null, .null]) :: (op, OPo Z (.ref ra) (.ref rb) (iI (-1)) (iI (-1)) (.ref rt) (iI 1) (iI 0)) :: (ra, Own.ArrC Z .long [(jJ 0), (jJ 0), (jJ 0), (jJ 0), (jJ 0), (jJ 0), (jJ 0), (jJ 0), (jJ 0), (jJ 0), (jJ 0), (jJ 0), (jJ 0), (jJ 0), (jJ 0), (jJ 0)]) :: (o0, WEo Z (.ref op) (.ref oc1) (.ref of2) (.ref ol3) (.ref ok) (iI 0) (iI 1) (iI 0) (iI 0)) :: (oc1, Own.ArrC Z .int [(iI 1), (iI 0), (iI 0), (iI 0)]) :: (of2, Own.ArrC Z .int [(.int p3), (iI 0), (iI 0), (iI 0)]) :: (ol3, Own.ArrC Z .int [(iI 0), (iI 0), (iI 0), (iI 0)]) :: (ok, Own.ArrC Z .long [(jJ 0), (jJ 0), (jJ 0), (jJ 0)]) :: fr) := O16.pick 3 rfl
  have O18 : Own.Owns n0 h14 ((ra, Own.ArrC Z .long [(jJ 0), (jJ 0), (jJ 0), (jJ 0), (jJ 0), (jJ 0), (jJ 0), (jJ 0), (jJ 0), (jJ 0), (jJ 0), (jJ 0), (jJ 0), (jJ 0), (jJ 0), (jJ 0)]) :: (rb, Own.ArrC Z .long [(jJ 0), (jJ 0), (jJ 0), (jJ 0), (jJ 0), (jJ 0), (jJ 0), (jJ 0), (jJ 0), (jJ 0), (jJ 0), (jJ 0), (jJ 0), (jJ 0), (jJ 0), (jJ 0)]) :: (rt, Own.ArrC Z (.object "java/math/BigDecimal") [.null, .null, .null, .null, .null, .null, .null, .null, .null, .null, .null, .null, .null, .null, .null, .null]) :: (op, OPo Z (.ref ra) (.ref rb) (iI (-1)) (iI (-1)) (.ref rt) (iI 1) (iI 0)) :: (o0, WEo Z (.ref op) (.ref oc1) (.ref of2) (.ref ol3) (.ref ok) (iI 0) (iI 1) (iI 0) (iI 0)) :: (oc1, Own.ArrC Z .int [(iI 1), (iI 0), (iI 0), (iI 0)]) :: (of2, Own.ArrC Z .int [(.int p3), (iI 0), (iI 0), (iI 0)]) :: (ol3, Own.ArrC Z .int [(iI 0), (iI 0), (iI 0), (iI 0)]) :: (ok, Own.ArrC Z .long [(jJ 0), (jJ 0), (jJ 0), (jJ 0)]) :: fr) := O17.pick 3 rfl
  have O19 : Own.Owns n0 h14 ((op, OPo Z (.ref ra) (.ref rb) (iI (-1)) (iI (-1)) (.ref rt) (iI 1) (iI 0)) :: (ra, Own.ArrC Z .long [(jJ 0), (jJ 0), (jJ 0), (jJ 0), (jJ 0), (jJ 0), (jJ 0), (jJ 0), (jJ 0), (jJ 0), (jJ 0), (jJ 0), (jJ 0), (jJ 0), (jJ 0), (jJ 0)]) :: (rb, Own.ArrC Z .long [(jJ 0), (jJ 0), (jJ 0), (jJ 0), (jJ 0), (jJ 0), (jJ 0), (jJ 0), (jJ 0), (jJ 0), (jJ 0), (jJ 0), (jJ 0), (jJ 0), (jJ 0), (jJ 0)]) :: (rt, Own.ArrC Z (.object "java/math/BigDecimal") [.null, .null, .null, .null, .null, .null, .null, .null, .null, .null, .null, .null, .null, .null, .null, .null]) :: (o0, WEo Z (.ref op) (.ref oc1) (.ref of2) (.ref ol3) (.ref ok) (iI 0) (iI 1) (iI 0) (iI 0)) :: (oc1, Own.ArrC Z .int [(iI 1), (iI 0), (iI 0), (iI 0)]) :: (of2, Own.ArrC Z .int [(.int p3), (iI 0), (iI 0), (iI 0)]) :: (ol3, Own.ArrC Z .int [(iI 0), (iI 0), (iI 0), (iI 0)]) :: (ok, Own.ArrC Z .long [(jJ 0), (jJ 0), (jJ 0), (jJ 0)]) :: fr) := O18.pick 3 rfl
  have O20 : Own.Owns n0 h14 ((ok, Own.ArrC Z .long [(jJ 0), (jJ 0), (jJ 0), (jJ 0)]) :: (op, OPo Z (.ref ra) (.ref rb) (iI (-1)) (iI (-1)) (.ref rt) (iI 1) (iI 0)) :: (ra, Own.ArrC Z .long [(jJ 0), (jJ 0), (jJ 0), (jJ 0), (jJ 0), (jJ 0), (jJ 0), (jJ 0), (jJ 0), (jJ 0), (jJ 0), (jJ 0), (jJ 0), (jJ 0), (jJ 0), (jJ 0)]) :: (rb, Own.ArrC Z .long [(jJ 0), (jJ 0), (jJ 0), (jJ 0), (jJ 0), (jJ 0), (jJ 0), (jJ 0), (jJ 0), (jJ 0), (jJ 0), (jJ 0), (jJ 0), (jJ 0), (jJ 0), (jJ 0)]) :: (rt, Own.ArrC Z (.object "java/math/BigDecimal") [.null, .null, .null, .null, .null, .null, .null, .null, .null, .null, .null, .null, .null, .null, .null, .null]) :: (o0, WEo Z (.ref op) (.ref oc1) (.ref of2) (.ref ol3) (.ref ok) (iI 0) (iI 1) (iI 0) (iI 0)) :: (oc1, Own.ArrC Z .int [(iI 1), (iI 0), (iI 0), (iI 0)]) :: (of2, Own.ArrC Z .int [(.int p3), (iI 0), (iI 0), (iI 0)]) :: (ol3, Own.ArrC Z .int [(iI 0), (iI 0), (iI 0), (iI 0)]) :: fr) := O19.pick 8 rfl
  have O21 : Own.Owns n0 h14 ((ol3, Own.ArrC Z .int [(iI 0), (iI 0), (iI 0), (iI 0)]) :: (ok, Own.ArrC Z .long [(jJ 0), (jJ 0), (jJ 0), (jJ 0)]) :: (op, OPo Z (.ref ra) (.ref rb) (iI (-1)) (iI (-1)) (.ref rt) (iI 1) (iI 0)) :: (ra, Own.ArrC Z .long [(jJ 0), (jJ 0), (jJ 0), (jJ 0), (jJ 0), (jJ 0), (jJ 0), (jJ 0), (jJ 0), (jJ 0), (jJ 0), (jJ 0), (jJ 0), (jJ 0), (jJ 0), (jJ 0)]) :: (rb, Own.ArrC Z .long [(jJ 0), (jJ 0), (jJ 0), (jJ 0), (jJ 0), (jJ 0), (jJ 0), (jJ 0), (jJ 0), (jJ 0), (jJ 0), (jJ 0), (jJ 0), (jJ 0), (jJ 0), (jJ 0)]) :: (rt, Own.ArrC Z (.object "java/math/BigDecimal") [.null, .null, .null, .null, .null, .null, .null, .null, .null, .null, .null, .null, .null, .null, .null, .null]) :: (o0, WEo Z (.ref op) (.ref oc1) (.ref of2) (.ref ol3) (.ref ok) (iI 0) (iI 1) (iI 0) (iI 0)) :: (oc1, Own.ArrC Z .int [(iI 1), (iI 0), (iI 0), (iI 0)]) :: (of2, Own.ArrC Z .int [(.int p3), (iI 0), (iI 0), (iI 0)]) :: fr) := O20.pick 8 rfl
  have O22 : Own.Owns n0 h14 ((of2, Own.ArrC Z .int [(.int p3), (iI 0), (iI 0), (iI 0)]) :: (ol3, Own.ArrC Z .int [(iI 0), (iI 0), (iI 0), (iI 0)]) :: (ok, Own.ArrC Z .long [(jJ 0), (jJ 0), (jJ 0), (jJ 0)]) :: (op, OPo Z (.ref ra) (.ref rb) (iI (-1)) (iI (-1)) (.ref rt) (iI 1) (iI 0)) :: (ra, Own.ArrC Z .long [(jJ 0), (jJ 0), (jJ 0), (jJ 0), (jJ 0), (jJ 0), (jJ 0), (jJ 0), (jJ 0), (jJ 0), (jJ 0), (jJ 0), (jJ 0), (jJ 0), (jJ 0), (jJ 0)]) :: (rb, Own.ArrC Z .long [(jJ 0), (jJ 0), (jJ 0), (jJ 0), (jJ 0), (jJ 0), (jJ 0), (jJ 0), (jJ 0), (jJ 0), (jJ 0), (jJ 0), (jJ 0), (jJ 0), (jJ 0), (jJ 0)]) :: (rt, Own.ArrC Z (.object "java/math/BigDecimal") [.null, .null, .null, .null, .null, .null, .null, .null, .null, .null, .null, .null, .null, .null, .null, .null]) :: (o0, WEo Z (.ref op) (.ref oc1) (.ref of2) (.ref ol3) (.ref ok) (iI 0) (iI 1) (iI 0) (iI 0)) :: (oc1, Own.ArrC Z .int [(iI 1), (iI 0), (iI 0), (iI 0)]) :: fr) := O21.pick 8 rfl
  have O23 : Own.Owns n0 h14 ((oc1, Own.ArrC Z .int [(iI 1), (iI 0), (iI 0), (iI 0)]) :: (of2, Own.ArrC Z .int [(.int p3), (iI 0), (iI 0), (iI 0)]) :: (ol3, Own.ArrC Z .int [(iI 0), (iI 0), (iI 0), (iI 0)]) :: (ok, Own.ArrC Z .long [(jJ 0), (jJ 0), (jJ 0), (jJ 0)]) :: (op, OPo Z (.ref ra) (.ref rb) (iI (-1)) (iI (-1)) (.ref rt) (iI 1) (iI 0)) :: (ra, Own.ArrC Z .long [(jJ 0), (jJ 0), (jJ 0), (jJ 0), (jJ 0), (jJ 0), (jJ 0), (jJ 0), (jJ 0), (jJ 0), (jJ 0), (jJ 0), (jJ 0), (jJ 0), (jJ 0), (jJ 0)]) :: (rb, Own.ArrC Z .long [(jJ 0), (jJ 0), (jJ 0), (jJ 0), (jJ 0), (jJ 0), (jJ 0), (jJ 0), (jJ 0), (jJ 0), (jJ 0), (jJ 0), (jJ 0), (jJ 0), (jJ 0), (jJ 0)]) :: (rt, Own.ArrC Z (.object "java/math/BigDecimal") [.null, .null, .null, .null, .null, .null, .null, .null, .null, .null, .null, .null, .null, .null, .null, .null]) :: (o0, WEo Z (.ref op) (.ref oc1) (.ref of2) (.ref ol3) (.ref ok) (iI 0) (iI 1) (iI 0) (iI 0)) :: fr) := O22.pick 8 rfl
  have O24 : Own.Owns n0 h14 ((o0, WEo Z (.ref op) (.ref oc1) (.ref of2) (.ref ol3) (.ref ok) (iI 0) (iI 1) (iI 0) (iI 0)) :: (oc1, Own.ArrC Z .int [(iI 1), (iI 0), (iI 0), (iI 0)]) :: (of2, Own.ArrC Z .int [(.int p3), (iI 0), (iI 0), (iI 0)]) :: (ol3, Own.ArrC Z .int [(iI 0), (iI 0), (iI 0), (iI 0)]) :: (ok, Own.ArrC Z .long [(jJ 0), (jJ 0), (jJ 0), (jJ 0)]) :: (op, OPo Z (.ref ra) (.ref rb) (iI (-1)) (iI (-1)) (.ref rt) (iI 1) (iI 0)) :: (ra, Own.ArrC Z .long [(jJ 0), (jJ 0), (jJ 0), (jJ 0), (jJ 0), (jJ 0), (jJ 0), (jJ 0), (jJ 0), (jJ 0), (jJ 0), (jJ 0), (jJ 0), (jJ 0), (jJ 0), (jJ 0)]) :: (rb, Own.ArrC Z .long [(jJ 0), (jJ 0), (jJ 0), (jJ 0), (jJ 0), (jJ 0), (jJ 0), (jJ 0), (jJ 0), (jJ 0), (jJ 0), (jJ 0), (jJ 0), (jJ 0), (jJ 0), (jJ 0)]) :: (rt, Own.ArrC Z (.object "java/math/BigDecimal") [.null, .null, .null, .null, .null, .null, .null, .null, .null, .null, .null, .null, .null, .null, .null, .null]) :: fr) := O23.pick 8 rfl
  exact Own.retV hx hret hlk (hb hby d5_15) (by decide) (by decide) ⟨oc1, of2, ol3, rfl, O24⟩

theorem ef6_1 (m : MethodId) (x0 : Addr) (x1 : Int32) : entryFrame m #[(.ref x0), (.int x1)] 2 = mkF m 0 #[.val (.ref x0), .val (.int x1)] [] := by first | (simp [entryFrame, mkF, argsToLocals, Value.category]; done) | rfl
set_option maxRecDepth 65536 in
set_option maxHeartbeats 40000000 in
theorem rm6_1 (l : Launch) (Z : State) (a0 : Array Value) (hw : ∀ d ∈ tables_1, d.before a0 Z = true) (o0 : Addr) (p1 : Int32) (h0 : Heap) (n0 : Nat) (op oc of' ol ok : Addr) (f0 : Int32) (fr : List (Addr × (Cell → Prop))) (O0 : Own.Owns n0 h0 ((o0, WEo Z (.ref op) (.ref oc) (.ref of') (.ref ol) (.ref ok) (iI 0) (iI 1) (iI 0) (iI 0)) :: (oc, Own.ArrC Z .int [(iI 1), (iI 0), (iI 0), (iI 0)]) :: (of', Own.ArrC Z .int [(.int f0), (iI 0), (iI 0), (iI 0)]) :: (ol, Own.ArrC Z .int [(iI 0), (iI 0), (iI 0), (iI 0)]) :: fr))  : Own.Does l (⟨"com/example/tracewarden/tracewarden/monitor/WindowEntries", "addStretch", "(I)V"⟩ : MethodName) prog_144_method_16_code 2 none [] ({ frames := 0, cells := 0, slots := 0, locals := 0 } : Room) Z #[(.ref o0), (.int p1)] h0 n0 (fun v h => ∃ oc2 of2 ol2, v = none ∧ Own.Owns n0 h ((o0, WEo Z (.ref op) (.ref oc2) (.ref of2) (.ref ol2) (.ref ok) (iI 0) (iI 2) (iI 0) (iI 0)) :: (oc2, Own.ArrC Z .int [(iI 1), (iI 1), (iI 0), (iI 0)]) :: (of2, Own.ArrC Z .int [(.int f0), (.int p1), (iI 0), (iI 0)]) :: (ol2, Own.ArrC Z .int [(iI 0), (iI 0), (iI 0), (iI 0)]) :: fr)) := by
  refine Own.doesOf pn7 ?_
  intro p e s m below meth c hx hby hml hret hlk hown hnm hZ
  refine Own.Goes.cast (ef6_1 m o0 p1) ?_
  refine Own.aloadN hx (.ref o0) (hb hby d6_0) rfl rfl rfl ?_
  refine Own.getfield hx hZ hown O0 0 6 rfl rfl (hw _ (wm 55 rfl)) (hb hby d6_1) rfl ?_
  refine Own.aloadN hx (.ref o0) (hb hby d6_4) rfl rfl rfl ?_
  refine Own.getfield hx hZ hown O0 0 1 rfl rfl (hw _ (wm 36 rfl)) (hb hby d6_5) rfl ?_
  refine Own.arrlen hx hZ O0 1 rfl (4 : Int32) rfl (hb hby d6_8) rfl ?_
  have hc1 : ¬ ((1 : Int32) = (4 : Int32)) := by decide
  refine Own.icmpFn hx (Own.q_ne (1 : Int32) (4 : Int32)) (hb hby d6_9) (pcN := 12) rfl (by decide) (pcT := 63) rfl (fun _ => ?_) (fun q => absurd q hc1)
  refine Own.aloadN hx (.ref o0) (hb hby d6_63) rfl rfl rfl ?_
  refine Own.getfield hx hZ hown O0 0 1 rfl rfl (hw _ (wm 36 rfl)) (hb hby d6_64) rfl ?_
  refine Own.aloadN hx (.ref o0) (hb hby d6_67) rfl rfl rfl ?_
  refine Own.getfield hx hZ hown O0 0 6 rfl rfl (hw _ (wm 55 rfl)) (hb hby d6_68) rfl ?_
  refine Own.iconst hx (1 : Int32) (hb hby d6_71) rfl (by decide) ?_
  refine Own.iastore hx hZ O0 1 1 rfl (by decide) (by exact (show 1 < 4 by decide)) ((o0, WEo Z (.ref op) (.ref oc) (.ref of') (.ref ol) (.ref ok) (iI 0) (iI 1) (iI 0) (iI 0)) :: (oc, Own.ArrC Z .int [(iI 1), (iI 1), (iI 0), (iI 0)]) :: (of', Own.ArrC Z .int [(.int f0), (iI 0), (iI 0), (iI 0)]) :: (ol, Own.ArrC Z .int [(iI 0), (iI 0), (iI 0), (iI 0)]) :: fr) rfl (hb hby d6_72) rfl ?_
  intro h3 O4
  refine Own.aloadN hx (.ref o0) (hb hby d6_73) rfl rfl rfl ?_
  refine Own.getfield hx hZ hown O4 0 2 rfl rfl (hw _ (wm 38 rfl)) (hb hby d6_74) rfl ?_
  refine Own.aloadN hx (.ref o0) (hb hby d6_77) rfl rfl rfl ?_
  refine Own.dup hx (hb hby d6_78) rfl rfl ?_
  refine Own.getfield hx hZ hown O4 0 6 rfl rfl (hw _ (wm 55 rfl)) (hb hby d6_79) rfl ?_
  refine Own.dupX1 hx (hb hby d6_82) rfl rfl rfl ?_
  refine Own.iconst hx (1 : Int32) (hb hby d6_83) rfl (by decide) ?_
  refine Own.iadd hx (hb hby d6_84) rfl ?_
  refine Own.vI (2 : Int32) (by decide) ?_
  refine Own.putfield hx hZ hown O4 0 6 rfl rfl (hw _ (wm 55 rfl)) (Or.inl (hw _ (wm 56 rfl))) (hw _ (wm 2 rfl)) (ty := .int) (by decide) rfl rfl ((o0, WEo Z (.ref op) (.ref oc) (.ref of') (.ref ol) (.ref ok) (iI 0) (iI 2) (iI 0) (iI 0)) :: (oc, Own.ArrC Z .int [(iI 1), (iI 1), (iI 0), (iI 0)]) :: (of', Own.ArrC Z .int [(.int f0), (iI 0), (iI 0), (iI 0)]) :: (ol, Own.ArrC Z .int [(iI 0), (iI 0), (iI 0), (iI 0)]) :: fr) rfl (hb hby d6_85) rfl ?_
  intro h5 O6
  refine Own.iloadN hx p1 (hb hby d6_88) rfl rfl ?_
  refine Own.iastore hx hZ O6 2 1 rfl (by decide) (by exact (show 1 < 4 by decide)) ((o0, WEo Z (.ref op) (.ref oc) (.ref of') (.ref ol) (.ref ok) (iI 0) (iI 2) (iI 0) (iI 0)) :: (oc, Own.ArrC Z .int [(iI 1), (iI 1), (iI 0), (iI 0)]) :: (of', Own.ArrC Z .int [(.int f0), (.int p1), (iI 0), (iI 0)]) :: (ol, Own.ArrC Z .int [(iI 0), (iI 0), (iI 0), (iI 0)]) :: fr) rfl (hb hby d6_89) rfl ?_
  intro h7 O8
  have O9 : Own.Owns n0 h7 ((ol, Own.ArrC Z .int [(iI 0), (iI 0), (iI 0), (iI 0)]) :: (o0, WEo Z (.ref op) (.ref oc) (.ref of') (.ref ol) (.ref ok) (iI 0) (iI 2) (iI 0) (iI 0)) :: (oc, Own.ArrC Z .int [(iI 1), (iI 1), (iI 0), (iI 0)]) :: (of', Own.ArrC Z .int [(.int f0), (.int p1), (iI 0), (iI 0)]) :: fr) := O8.pick 3 rfl
  have O10 : Own.Owns n0 h7 ((of', Own.ArrC Z .int [(.int f0), (.int p1), (iI 0), (iI 0)]) :: (ol, Own.ArrC Z .int [(iI 0), (iI 0), (iI 0), (iI 0)]) :: (o0, WEo Z (.ref op) (.ref oc) (.ref of') (.ref ol) (.ref ok) (iI 0) (iI 2) (iI 0) (iI 0)) :: (oc, Own.ArrC Z .int [(iI 1), (iI 1), (iI 0), (iI 0)]) :: fr) := O9.pick 3 rfl
  have O11 : Own.Owns n0 h7 ((oc, Own.ArrC Z .int [(iI 1), (iI 1), (iI 0), (iI 0)]) :: (of', Own.ArrC Z .int [(.int f0), (.int p1), (iI 0), (iI 0)]) :: (ol, Own.ArrC Z .int [(iI 0), (iI 0), (iI 0), (iI 0)]) :: (o0, WEo Z (.ref op) (.ref oc) (.ref of') (.ref ol) (.ref ok) (iI 0) (iI 2) (iI 0) (iI 0)) :: fr) := O10.pick 3 rfl
  have O12 : Own.Owns n0 h7 ((o0, WEo Z (.ref op) (.ref oc) (.ref of') (.ref ol) (.ref ok) (iI 0) (iI 2) (iI 0) (iI 0)) :: (oc, Own.ArrC Z .int [(iI 1), (iI 1), (iI 0), (iI 0)]) :: (of', Own.ArrC Z .int [(.int f0), (.int p1), (iI 0), (iI 0)]) :: (ol, Own.ArrC Z .int [(iI 0), (iI 0), (iI 0), (iI 0)]) :: fr) := O11.pick 3 rfl
  exact Own.retV hx hret hlk (hb hby d6_90) (by decide) (by decide) ⟨oc, of', ol, rfl, O12⟩

theorem ef5_1 (m : MethodId) (x0 : Addr) (x1 : Int64) (x3 : Int32) : entryFrame m #[(.ref x0), (.long x1), .null, (.int x3)] 5 = mkF m 0 #[.val (.ref x0), .val (.long x1), .second, .val .null, .val (.int x3)] [] := by first | (simp [entryFrame, mkF, argsToLocals, Value.category]; done) | rfl
set_option maxRecDepth 65536 in
set_option maxHeartbeats 40000000 in
theorem rm5_1 (l : Launch) (Z : State) (a0 : Array Value) (hw : ∀ d ∈ tables_1, d.before a0 Z = true) (o0 : Addr) (p3 : Int32) (h0 : Heap) (n0 : Nat) (oc of' ol ok op ra rb rt : Addr) (f0 : Int32) (fr : List (Addr × (Cell → Prop))) (O0 : Own.Owns n0 h0 ((o0, WEo Z (.ref op) (.ref oc) (.ref of') (.ref ol) (.ref ok) (iI 0) (iI 1) (iI 0) (iI 0)) :: (oc, Own.ArrC Z .int [(iI 1), (iI 0), (iI 0), (iI 0)]) :: (of', Own.ArrC Z .int [(.int f0), (iI 0), (iI 0), (iI 0)]) :: (ol, Own.ArrC Z .int [(iI 0), (iI 0), (iI 0), (iI 0)]) :: (ok, Own.ArrC Z .long [(jJ 0), (jJ 0), (jJ 0), (jJ 0)]) :: (op, OPo Z (.ref ra) (.ref rb) (iI (-1)) (iI (-1)) (.ref rt) (iI 1) (iI 0)) :: (ra, Own.ArrC Z .long [(jJ 0), (jJ 0), (jJ 0), (jJ 0), (jJ 0), (jJ 0), (jJ 0), (jJ 0), (jJ 0), (jJ 0), (jJ 0), (jJ 0), (jJ 0), (jJ 0), (jJ 0), (jJ 0)]) :: (rb, Own.ArrC Z .long [(jJ 0), (jJ 0), (jJ 0), (jJ 0), (jJ 0), (jJ 0), (jJ 0), (jJ 0), (jJ 0), (jJ 0), (jJ 0), (jJ 0), (jJ 0), (jJ 0), (jJ 0), (jJ 0)]) :: (rt, Own.ArrC Z (.object "java/math/BigDecimal") [.null, .null, .null, .null, .null, .null, .null, .null, .null, .null, .null, .null, .null, .null, .null, .null]) :: fr))  : Own.Does l (⟨"com/example/tracewarden/tracewarden/monitor/WindowEntries", "add", "(JLjava/math/BigDecimal;I)V"⟩ : MethodName) prog_144_method_14_code 5 none [] ({ frames := 2, cells := 0, slots := 0, locals := 30 } : Room) Z #[(.ref o0), (.long (1 : Int64)), .null, (.int p3)] h0 n0 (fun v h => ∃ oc2 of2 ol2, v = none ∧ Own.Owns n0 h ((o0, WEo Z (.ref op) (.ref oc2) (.ref of2) (.ref ol2) (.ref ok) (iI 0) (iI 2) (iI 0) (iI 0)) :: (oc2, Own.ArrC Z .int [(iI 1), (iI 1), (iI 0), (iI 0)]) :: (of2, Own.ArrC Z .int [(.int f0), (.int p3), (iI 0), (iI 0)]) :: (ol2, Own.ArrC Z .int [(iI 0), (iI 0), (iI 0), (iI 0)]) :: (ok, Own.ArrC Z .long [(jJ 0), (jJ 0), (jJ 0), (jJ 0)]) :: (op, OPo Z (.ref ra) (.ref rb) (iI (-1)) (iI (-1)) (.ref rt) (iI 2) (iI 0)) :: (ra, Own.ArrC Z .long [(jJ 0), (jJ 1), (jJ 0), (jJ 0), (jJ 0), (jJ 0), (jJ 0), (jJ 0), (jJ 0), (jJ 0), (jJ 0), (jJ 0), (jJ 0), (jJ 0), (jJ 0), (jJ 0)]) :: (rb, Own.ArrC Z .long [(jJ 0), (jJ 1), (jJ 0), (jJ 0), (jJ 0), (jJ 0), (jJ 0), (jJ 0), (jJ 0), (jJ 0), (jJ 0), (jJ 0), (jJ 0), (jJ 0), (jJ 0), (jJ 0)]) :: (rt, Own.ArrC Z (.object "java/math/BigDecimal") [.null, .null, .null, .null, .null, .null, .null, .null, .null, .null, .null, .null, .null, .null, .null, .null]) :: fr)) := by
  refine Own.doesOf pn8 ?_
  intro p e s m below meth c hx hby hml hret hlk hown hnm hZ
  refine Own.Goes.cast (ef5_1 m o0 (1 : Int64) p3) ?_
  refine Own.aloadN hx (.ref o0) (hb hby d5_0) rfl rfl rfl ?_
  refine Own.iload hx p3 (hb hby d5_1) rfl rfl ?_
  have O4 : Own.Owns n0 h0 ((ol, Own.ArrC Z .int [(iI 0), (iI 0), (iI 0), (iI 0)]) :: (o0, WEo Z (.ref op) (.ref oc) (.ref of') (.ref ol) (.ref ok) (iI 0) (iI 1) (iI 0) (iI 0)) :: (oc, Own.ArrC Z .int [(iI 1), (iI 0), (iI 0), (iI 0)]) :: (of', Own.ArrC Z .int [(.int f0), (iI 0), (iI 0), (iI 0)]) :: (ok, Own.ArrC Z .long [(jJ 0), (jJ 0), (jJ 0), (jJ 0)]) :: (op, OPo Z (.ref ra) (.ref rb) (iI (-1)) (iI (-1)) (.ref rt) (iI 1) (iI 0)) :: (ra, Own.ArrC Z .long [(jJ 0), (jJ 0), (jJ 0), (jJ 0), (jJ 0), (jJ 0), (jJ 0), (jJ 0), (jJ 0), (jJ 0), (jJ 0), (jJ 0), (jJ 0), (jJ 0), (jJ 0), (jJ 0)]) :: (rb, Own.ArrC Z .long [(jJ 0), (jJ 0), (jJ 0), (jJ 0), (jJ 0), (jJ 0), (jJ 0), (jJ 0), (jJ 0), (jJ 0), (jJ 0), (jJ 0), (jJ 0), (jJ 0), (jJ 0), (jJ 0)]) :: (rt, Own.ArrC Z (.object "java/math/BigDecimal") [.null, .null, .null, .null, .null, .null, .null, .null, .null, .null, .null, .null, .null, .null, .null, .null]) :: fr) := O0.pick 3 rfl
  have O5 : Own.Owns n0 h0 ((of', Own.ArrC Z .int [(.int f0), (iI 0), (iI 0), (iI 0)]) :: (ol, Own.ArrC Z .int [(iI 0), (iI 0), (iI 0), (iI 0)]) :: (o0, WEo Z (.ref op) (.ref oc) (.ref of') (.ref ol) (.ref ok) (iI 0) (iI 1) (iI 0) (iI 0)) :: (oc, Own.ArrC Z .int [(iI 1), (iI 0), (iI 0), (iI 0)]) :: (ok, Own.ArrC Z .long [(jJ 0), (jJ 0), (jJ 0), (jJ 0)]) :: (op, OPo Z (.ref ra) (.ref rb) (iI (-1)) (iI (-1)) (.ref rt) (iI 1) (iI 0)) :: (ra, Own.ArrC Z .long [(jJ 0), (jJ 0), (jJ 0), (jJ 0), (jJ 0), (jJ 0), (jJ 0), (jJ 0), (jJ 0), (jJ 0), (jJ 0), (jJ 0), (jJ 0), (jJ 0), (jJ 0), (jJ 0)]) :: (rb, Own.ArrC Z .long [(jJ 0), (jJ 0), (jJ 0), (jJ 0), (jJ 0), (jJ 0), (jJ 0), (jJ 0), (jJ 0), (jJ 0), (jJ 0), (jJ 0), (jJ 0), (jJ 0), (jJ 0), (jJ 0)]) :: (rt, Own.ArrC Z (.object "java/math/BigDecimal") [.null, .null, .null, .null, .null, .null, .null, .null, .null, .null, .null, .null, .null, .null, .null, .null]) :: fr) := O4.pick 3 rfl
  have O6 : Own.Owns n0 h0 ((oc, Own.ArrC Z .int [(iI 1), (iI 0), (iI 0), (iI 0)]) :: (of', Own.ArrC Z .int [(.int f0), (iI 0), (iI 0), (iI 0)]) :: (ol, Own.ArrC Z .int [(iI 0), (iI 0), (iI 0), (iI 0)]) :: (o0, WEo Z (.ref op) (.ref oc) (.ref of') (.ref ol) (.ref ok) (iI 0) (iI 1) (iI 0) (iI 0)) :: (ok, Own.ArrC Z .long [(jJ 0), (jJ 0), (jJ 0), (jJ 0)]) :: (op, OPo Z (.ref ra) (.ref rb) (iI (-1)) (iI (-1)) (.ref rt) (iI 1) (iI 0)) :: (ra, Own.ArrC Z .long [(jJ 0), (jJ 0), (jJ 0), (jJ 0), (jJ 0), (jJ 0), (jJ 0), (jJ 0), (jJ 0), (jJ 0), (jJ 0), (jJ 0), (jJ 0), (jJ 0), (jJ 0), (jJ 0)]) :: (rb, Own.ArrC Z .long [(jJ 0), (jJ 0), (jJ 0), (jJ 0), (jJ 0), (jJ 0), (jJ 0), (jJ 0), (jJ 0), (jJ 0), (jJ 0), (jJ 0), (jJ 0), (jJ 0), (jJ 0), (jJ 0)]) :: (rt, Own.ArrC Z (.object "java/math/BigDecimal") [.null, .null, .null, .null, .null, .null, .null, .null, .null, .null, .null, .null, .null, .null, .null, .null]) :: fr) := O5.pick 3 rfl
  have O7 : Own.Owns n0 h0 ((o0, WEo Z (.ref op) (.ref oc) (.ref of') (.ref ol) (.ref ok) (iI 0) (iI 1) (iI 0) (iI 0)) :: (oc, Own.ArrC Z .int [(iI 1), (iI 0), (iI 0), (iI 0)]) :: (of', Own.ArrC Z .int [(.int f0), (iI 0), (iI 0), (iI 0)]) :: (ol, Own.ArrC Z .int [(iI 0), (iI 0), (iI 0), (iI 0)]) :: (ok, Own.ArrC Z .long [(jJ 0), (jJ 0), (jJ 0), (jJ 0)]) :: (op, OPo Z (.ref ra) (.ref rb) (iI (-1)) (iI (-1)) (.ref rt) (iI 1) (iI 0)) :: (ra, Own.ArrC Z .long [(jJ 0), (jJ 0), (jJ 0), (jJ 0), (jJ 0), (jJ 0), (jJ 0), (jJ 0), (jJ 0), (jJ 0), (jJ 0), (jJ 0), (jJ 0), (jJ 0), (jJ 0), (jJ 0)]) :: (rb, Own.ArrC Z .long [(jJ 0), (jJ 0), (jJ 0), (jJ 0), (jJ 0), (jJ 0), (jJ 0), (jJ 0), (jJ 0), (jJ 0), (jJ 0), (jJ 0), (jJ 0), (jJ 0), (jJ 0), (jJ 0)]) :: (rt, Own.ArrC Z (.object "java/math/BigDecimal") [.null, .null, .null, .null, .null, .null, .null, .null, .null, .null, .null, .null, .null, .null, .null, .null]) :: fr) := O6.pick 3 rfl
  refine Own.callP hx hZ hown (O7.exa (i := 0) rfl) (hw _ (wm 51 rfl)) (hw _ (wm 52 rfl)) (hw _ (wm 2 rfl)) (hw _ (wm 53 rfl)) (hw _ (wm 3 rfl)) (hw _ (wm 54 rfl)) (by decide) pd3 (argsL := [(.int p3)]) (rest := []) rfl (W := 0) (Nat.le_of_eq rfl) (rm := ({ frames := 0, cells := 0, slots := 0, locals := 0 } : Room)) (by decide) (by decide) (by decide) (by decide) (k' := 0) (n' := 0) rfl rfl (by rw [hml]; rfl) [(.int p3), (.ref o0)] rfl (hb hby d5_3) (pc' := 6) rfl (rm6_1 l Z a0 hw o0 p3 h0 n0 op oc of' ol ok f0 ((ok, Own.ArrC Z .long [(jJ 0), (jJ 0), (jJ 0), (jJ 0)]) :: (op, OPo Z (.ref ra) (.ref rb) (iI (-1)) (iI (-1)) (.ref rt) (iI 1) (iI 0)) :: (ra, Own.ArrC Z .long [(jJ 0), (jJ 0), (jJ 0), (jJ 0), (jJ 0), (jJ 0), (jJ 0), (jJ 0), (jJ 0), (jJ 0), (jJ 0), (jJ 0), (jJ 0), (jJ 0), (jJ 0), (jJ 0)]) :: (rb, Own.ArrC Z .long [(jJ 0), (jJ 0), (jJ 0), (jJ 0), (jJ 0), (jJ 0), (jJ 0), (jJ 0), (jJ 0), (jJ 0), (jJ 0), (jJ 0), (jJ 0), (jJ 0), (jJ 0), (jJ 0)]) :: (rt, Own.ArrC Z (.object "java/math/BigDecimal") [.null, .null, .null, .null, .null, .null, .null, .null, .null, .null, .null, .null, .null, .null, .null, .null]) :: fr) O7) ?_
  rintro _ h8 ⟨oc1, of2, ol3, rfl, O9⟩
  show Own.Goes _ _ _ _ _ _ _ _ _ _ _ _ _ _ _ _ _ (mkF m 6 #[.val (.ref o0), .val (.long (1 : Int64)), .second, .val .null, .val (.int p3)] [])
  refine Own.aloadN hx (.ref o0) (hb hby d5_6) rfl rfl rfl ?_
  refine Own.getfield hx hZ hown O9 0 0 rfl rfl (hw _ (wm 33 rfl)) (hb hby d5_7) rfl ?_
  refine Own.lloadN hx (1 : Int64) (hb hby d5_10) rfl rfl ?_
  refine Own.aloadN hx .null (hb hby d5_11) rfl rfl rfl ?_
  have O10 : Own.Owns n0 h8 ((rt, Own.ArrC Z (.object "java/math/BigDecimal") [.null, .null, .null, .null, .null, .null, .null, .null, .null, .null, .null, .null, .null, .null, .null, .null]) :: (o0, WEo Z (.ref op) (.ref oc1) (.ref of2) (.ref ol3) (.ref ok) (iI 0) (iI 2) (iI 0) (iI 0)) :: (oc1, Own.ArrC Z .int [(iI 1), (iI 1), (iI 0), (iI 0)]) :: (of2, Own.ArrC Z .int [(.int f0), (.int p3), (iI 0), (iI 0)]) :: (ol3, Own.ArrC Z .int [(iI 0), (iI 0), (iI 0), (iI 0)]) :: (ok, Own.ArrC Z .long [(jJ 0), (jJ 0), (jJ 0), (jJ 0)]) :: (op, OPo Z (.ref ra) (.ref rb) (iI (-1)) (iI (-1)) (.ref rt) (iI 1) (iI 0)) :: (ra, Own.ArrC Z .long [(jJ 0), (jJ 0), (jJ 0), (jJ 0), (jJ 0), (jJ 0), (jJ 0), (jJ 0), (jJ 0), (jJ 0), (jJ 0), (jJ 0), (jJ 0), (jJ 0), (jJ 0), (jJ 0)]) :: (rb, Own.ArrC Z .long [(jJ 0), (jJ 0), (jJ 0), (jJ 0), (jJ 0), (jJ 0), (jJ 0), (jJ 0), (jJ 0), (jJ 0), (jJ 0), (jJ 0), (jJ 0), (jJ 0), (jJ 0), (jJ 0)]) :: fr) := O9.pick 8 rfl
  have O11 : Own.Owns n0 h8 ((rb, Own.ArrC Z .long [(jJ 0), (jJ 0), (jJ 0), (jJ 0), (jJ 0), (jJ 0), (jJ 0), (jJ 0), (jJ 0), (jJ 0), (jJ 0), (jJ 0), (jJ 0), (jJ 0), (jJ 0), (jJ 0)]) :: (rt, Own.ArrC Z (.object "java/math/BigDecimal") [.null, .null, .null, .null, .null, .null, .null, .null, .null, .null, .null, .null, .null, .null, .null, .null]) :: (o0, WEo Z (.ref op) (.ref oc1) (.ref of2) (.ref ol3) (.ref ok) (iI 0) (iI 2) (iI 0) (iI 0)) :: (oc1, Own.ArrC Z .int [(iI 1), (iI 1), (iI 0), (iI 0)]) :: (of2, Own.ArrC Z .int [(.int f0), (.int p3), (iI 0), (iI 0)]) :: (ol3, Own.ArrC Z .int [(iI 0), (iI 0), (iI 0), (iI 0)]) :: (ok, Own.ArrC Z .long [(jJ 0), (jJ 0), (jJ 0), (jJ 0)]) :: (op, OPo Z (.ref ra) (.ref rb) (iI (-1)) (iI (-1)) (.ref rt) (iI 1) (iI 0)) :: (ra, Own.ArrC Z .long [(jJ 0), (jJ 0), (jJ 0), (jJ 0), (jJ 0), (jJ 0), (jJ 0), (jJ 0), (jJ 0), (jJ 0), (jJ 0), (jJ 0), (jJ 0), (jJ 0), (jJ 0), (jJ 0)]) :: fr) := O10.pick 8 rfl
  have O12 : Own.Owns n0 h8 ((ra, Own.ArrC Z .long [(jJ 0), (jJ 0), (jJ 0), (jJ 0), (jJ 0), (jJ 0), (jJ 0), (jJ 0), (jJ 0), (jJ 0), (jJ 0), (jJ 0), (jJ 0), (jJ 0), (jJ 0), (jJ 0)]) :: (rb, Own.ArrC Z .long [(jJ 0), (jJ 0), (jJ 0), (jJ 0), (jJ 0), (jJ 0), (jJ 0), (jJ 0), (jJ 0), (jJ 0), (jJ 0), (jJ 0), (jJ 0), (jJ 0), (jJ 0), (jJ 0)]) :: (rt, Own.ArrC Z (.object "java/math/BigDecimal") [.null, .null, .null, .null, .null, .null, .null, .null, .null, .null, .null, .null, .null, .null, .null, .null]) :: (o0, WEo Z (.ref op) (.ref oc1) (.ref of2) (.ref ol3) (.ref ok) (iI 0) (iI 2) (iI 0) (iI 0)) :: (oc1, Own.ArrC Z .int [(iI 1), (iI 1), (iI 0), (iI 0)]) :: (of2, Own.ArrC Z .int [(.int f0), (.int p3), (iI 0), (iI 0)]) :: (ol3, Own.ArrC Z .int [(iI 0), (iI 0), (iI 0), (iI 0)]) :: (ok, Own.ArrC Z .long [(jJ 0), (jJ 0), (jJ 0), (jJ 0)]) :: (op, OPo Z (.ref ra) (.ref rb) (iI (-1)) (iI (-1)) (.ref rt) (iI 1) (iI 0)) :: fr) := O11.pick 8 rfl
  have O13 : Own.Owns n0 h8 ((op, OPo Z (.ref ra) (.ref rb) (iI (-1)) (iI (-1)) (.ref rt) (iI 1) (iI 0)) :: (ra, Own.ArrC Z .long [(jJ 0), (jJ 0), (jJ 0), (jJ 0), (jJ 0), (jJ 0), (jJ 0), (jJ 0), (jJ 0), (jJ 0), (jJ 0), (jJ 0), (jJ 0), (jJ 0), (jJ 0), (jJ 0)]) :: (rb, Own.ArrC Z .long [(jJ 0), (jJ 0), (jJ 0), (jJ 0), (jJ 0), (jJ 0), (jJ 0), (jJ 0), (jJ 0), (jJ 0), (jJ 0), (jJ 0), (jJ 0), (jJ 0), (jJ 0), (jJ 0)]) :: (rt, Own.ArrC Z (.object "java/math/BigDecimal") [.null, .null, .null, .null, .null, .null, .null, .null, .null, .null, .null, .null, .null, .null, .null, .null]) :: (o0, WEo Z (.ref op) (.ref oc1) (.ref of2) (.ref ol3) (.ref ok) (iI 0) (iI 2) (iI 0) (iI 0)) :: (oc1, Own.ArrC Z .int [(iI 1), (iI 1), (iI 0), (iI 0)]) :: (of2, Own.ArrC Z .int [(.int f0), (.int p3), (iI 0), (iI 0)]) :: (ol3, Own.ArrC Z .int [(iI 0), (iI 0), (iI 0), (iI 0)]) :: (ok, Own.ArrC Z .long [(jJ 0), (jJ 0), (jJ 0), (jJ 0)]) :: fr) := O12.pick 8 rfl
  refine Own.callV hx hZ hown (O13.exa (i := 0) rfl) (hw _ (wm 57 rfl)) (hw _ (wm 58 rfl)) (hw _ (wm 60 rfl)) (hw _ (wm 59 rfl)) (hw _ (wm 12 rfl)) (hw _ (wm 61 rfl)) (by decide) pd4 (argsL := [(.long (1 : Int64)), .null]) (rest := []) rfl (W := 0) (Nat.le_of_eq rfl) (rm := ({ frames := 1, cells := 0, slots := 0, locals := 12 } : Room)) (by decide) (by decide) (by decide) (by decide) (k' := 0) (n' := 0) rfl rfl (by rw [hml]; rfl) [.null, (.long (1 : Int64)), (.ref op)] rfl (hb hby d5_12) (pc' := 15) rfl (rm7_1 l Z a0 hw op h8 n0 ra rb rt ((o0, WEo Z (.ref op) (.ref oc1) (.ref of2) (.ref ol3) (.ref ok) (iI 0) (iI 2) (iI 0) (iI 0)) :: (oc1, Own.ArrC Z .int [(iI 1), (iI 1), (iI 0), (iI 0)]) :: (of2, Own.ArrC Z .int [(.int f0), (.int p3), (iI 0), (iI 0)]) :: (ol3, Own.ArrC Z .int [(iI 0), (iI 0), (iI 0), (iI 0)]) :: (ok, Own.ArrC Z .long [(jJ 0), (jJ 0), (jJ 0), (jJ 0)]) :: fr) O13) ?_
  rintro _ h14 ⟨rfl, O15⟩
  show Own.Goes _ _ _ _ _ _ _ _ _ _ _ _ _ _ _ _ _ (mkF m 15 #[.val (.ref o0), .val (.long (1 : Int64)), .second, .val .null, .val (.int p3)] [])
  have O16 : Own.Owns n0 h14 ((rt, Own.ArrC Z (.object "java/math/BigDecimal") [.null, .null, .null, .null, .null, .null, .null, .null, .null, .null, .null, .null, .null, .null, .null, .null]) :: (op, OPo Z (.ref ra) (.ref rb) (iI (-1)) (iI (-1)) (.ref rt) (iI 2) (iI 0)) :: (ra, Own.ArrC Z .long [(jJ 0), (jJ 1), (jJ 0), (jJ 0), (jJ 0), (jJ 0), (jJ 0), (jJ 0), (jJ 0), (jJ 0), (jJ 0), (jJ 0), (jJ 0), (jJ 0), (jJ 0), (jJ 0)]) :: (rb, Own.ArrC Z .long [(jJ 0), (jJ 1), (jJ 0), (jJ 0), (jJ 0), (jJ 0), (jJ 0), (jJ 0), (jJ 0), (jJ 0), (jJ 0), (jJ 0), (jJ 0), (jJ 0), (jJ 0), (jJ 0)]) :: (o0, WEo Z (.ref op) (.ref oc1) (.ref of2) (.ref ol3) (.ref ok) (iI 0) (iI 2) (iI 0) (iI 0)) :: (oc1, Own.ArrC Z .int [(iI 1), (iI 1), (iI 0), (iI 0)]) :: (of2, Own.ArrC Z .int [(.int f0), (.int p3), (iI 0), (iI 0)]) :: (ol3, Own.ArrC Z .int [(iI 0), (iI 0), (iI 0), (iI 0)]) :: (ok, Own.ArrC Z .long [(jJ 0), (jJ 0), (jJ 0), (jJ 0)]) :: fr) := O15.pick 3 rfl
  have O17 : Own.Owns n0 h14 ((rb, Own.ArrC Z .long [(jJ 0), (jJ 1), (jJ 0), (jJ 0), (jJ 0), (jJ 0), (jJ 0), (jJ 0), (jJ 0), (jJ 0), (jJ 0), (jJ 0), (jJ 0), (jJ 0), (jJ 0), (jJ 0)]) :: (rt, Own.ArrC Z (.object "java/math/BigDecimal") [.null, .null, .null, .null, .null, .null, .null, .null, .null, .null, .null, .null, .null, .null, .null, .null]) :: (op, OPo Z (.ref ra) (.ref rb) (iI (-1)) (iI (-1)) (.ref rt) (iI 2) (iI 0)) :: (ra, Own.ArrC Z .long [(jJ 0), (jJ 1), (jJ 0), (jJ 0), (jJ 0), (jJ 0), (jJ 0), (jJ 0), (jJ 0), (jJ 0), (jJ 0), (jJ 0), (jJ 0), (jJ 0), (jJ 0), (jJ 0)]) :: (o0, WEo Z (.ref op) (.ref oc1) (.ref of2) (.ref ol3) (.ref ok) (iI 0) (iI 2) (iI 0) (iI 0)) :: (oc1, Own.ArrC Z .int [(iI 1), (iI 1), (iI 0), (iI 0)]) :: (of2, Own.ArrC Z .int [(.int f0), (.int p3), (iI 0), (iI 0)]) :: (ol3, Own.ArrC Z .int [(iI 0), (iI 0), (iI 0), (iI 0)]) :: (ok, Own.ArrC Z .long [(jJ 0), (jJ 0), (jJ 0), (jJ 0)]) :: fr) := O16.pick 3 rfl
  have O18 : Own.Owns n0 h14 ((ra, Own.ArrC Z .long [(jJ 0), (jJ 1), (jJ 0), (jJ 0), (jJ 0), (jJ 0), (jJ 0), (jJ 0), (jJ 0), (jJ 0), (jJ 0), (jJ 0), (jJ 0), (jJ 0), (jJ 0), (jJ 0)]) :: (rb, Own.ArrC Z .long [(jJ 0), (jJ 1), (jJ 0), (jJ 0), (jJ 0), (jJ 0), (jJ 0), (jJ 0), (jJ 0), (jJ 0), (jJ 0), (jJ 0), (jJ 0), (jJ 0), (jJ 0), (jJ 0)]) :: (rt, Own.ArrC Z (.object "java/math/BigDecimal") [.null, .null, .null, .null, .null, .null, .null, .null, .null, .null, .null, .null, .null, .null, .null, .null]) :: (op, OPo Z (.ref ra) (.ref rb) (iI (-1)) (iI (-1)) (.ref rt) (iI 2) (iI 0)) :: (o0, WEo Z (.ref op) (.ref oc1) (.ref of2) (.ref ol3) (.ref ok) (iI 0) (iI 2) (iI 0) (iI 0)) :: (oc1, Own.ArrC Z .int [(iI 1), (iI 1), (iI 0), (iI 0)]) :: (of2, Own.ArrC Z .int [(.int f0), (.int p3), (iI 0), (iI 0)]) :: (ol3, Own.ArrC Z .int [(iI 0), (iI 0), (iI 0), (iI 0)]) :: (ok, Own.ArrC Z .long [(jJ 0), (jJ 0), (jJ 0), (jJ 0)]) :: fr) := O17.pick 3 rfl
  have O19 : Own.Owns n0 h14 ((op, OPo Z (.ref ra) (.ref rb) (iI (-1)) (iI (-1)) (.ref rt) (iI 2) (iI 0)) :: (ra, Own.ArrC Z .long [(jJ 0), (jJ 1), (jJ 0), (jJ 0), (jJ 0), (jJ 0), (jJ 0), (jJ 0), (jJ 0), (jJ 0), (jJ 0), (jJ 0), (jJ 0), (jJ 0), (jJ 0), (jJ 0)]) :: (rb, Own.ArrC Z .long [(jJ 0), (jJ 1), (jJ 0), (jJ 0), (jJ 0), (jJ 0), (jJ 0), (jJ 0), (jJ 0), (jJ 0), (jJ 0), (jJ 0), (jJ 0), (jJ 0), (jJ 0), (jJ 0)]) :: (rt, Own.ArrC Z (.object "java/math/BigDecimal") [.null, .null, .null, .null, .null, .null, .null, .null, .null, .null, .null, .null, .null, .null, .null, .null]) :: (o0, WEo Z (.ref op) (.ref oc1) (.ref of2) (.ref ol3) (.ref ok) (iI 0) (iI 2) (iI 0) (iI 0)) :: (oc1, Own.ArrC Z .int [(iI 1), (iI 1), (iI 0), (iI 0)]) :: (of2, Own.ArrC Z .int [(.int f0), (.int p3), (iI 0), (iI 0)]) :: (ol3, Own.ArrC Z .int [(iI 0), (iI 0), (iI 0), (iI 0)]) :: (ok, Own.ArrC Z .long [(jJ 0), (jJ 0), (jJ 0), (jJ 0)]) :: fr) := O18.pick 3 rfl
  have O20 : Own.Owns n0 h14 ((ok, Own.ArrC Z .long [(jJ 0), (jJ 0), (jJ 0), (jJ 0)]) :: (op, OPo Z (.ref ra) (.ref rb) (iI (-1)) (iI (-1)) (.ref rt) (iI 2) (iI 0)) :: (ra, Own.ArrC Z .long [(jJ 0), (jJ 1), (jJ 0), (jJ 0), (jJ 0), (jJ 0), (jJ 0), (jJ 0), (jJ 0), (jJ 0), (jJ 0), (jJ 0), (jJ 0), (jJ 0), (jJ 0), (jJ 0)]) :: (rb, Own.ArrC Z .long [(jJ 0), (jJ 1), (jJ 0), (jJ 0), (jJ 0), (jJ 0), (jJ 0), (jJ 0), (jJ 0), (jJ 0), (jJ 0), (jJ 0), (jJ 0), (jJ 0), (jJ 0), (jJ 0)]) :: (rt, Own.ArrC Z (.object "java/math/BigDecimal") [.null, .null, .null, .null, .null, .null, .null, .null, .null, .null, .null, .null, .null, .null, .null, .null]) :: (o0, WEo Z (.ref op) (.ref oc1) (.ref of2) (.ref ol3) (.ref ok) (iI 0) (iI 2) (iI 0) (iI 0)) :: (oc1, Own.ArrC Z .int [(iI 1), (iI 1), (iI 0), (iI 0)]) :: (of2, Own.ArrC Z .int [(.int f0), (.int p3), (iI 0), (iI 0)]) :: (ol3, Own.ArrC Z .int [(iI 0), (iI 0), (iI 0), (iI 0)]) :: fr) := O19.pick 8 rfl
  have O21 : Own.Owns n0 h14 ((ol3, Own.ArrC Z .int [(iI 0), (iI 0), (iI 0), (iI 0)]) :: (ok, Own.ArrC Z .long [(jJ 0), (jJ 0), (jJ 0), (jJ 0)]) :: (op, OPo Z (.ref ra) (.ref rb) (iI (-1)) (iI (-1)) (.ref rt) (iI 2) (iI 0)) :: (ra, Own.ArrC Z .long [(jJ 0), (jJ 1), (jJ 0), (jJ 0), (jJ 0), (jJ 0), (jJ 0), (jJ 0), (jJ 0), (jJ 0), (jJ 0), (jJ 0), (jJ 0), (jJ 0), (jJ 0), (jJ 0)]) :: (rb, Own.ArrC Z .long [(jJ 0), (jJ 1), (jJ 0), (jJ 0), (jJ 0), (jJ 0), (jJ 0), (jJ 0), (jJ 0), (jJ 0), (jJ 0), (jJ 0), (jJ 0), (jJ 0), (jJ 0), (jJ 0)]) :: (rt, Own.ArrC Z (.object "java/math/BigDecimal") [.null, .null, .null, .null, .null, .null, .null, .null, .null, .null, .null, .null, .null, .null, .null, .null]) :: (o0, WEo Z (.ref op) (.ref oc1) (.ref of2) (.ref ol3) (.ref ok) (iI 0) (iI 2) (iI 0) (iI 0)) :: (oc1, Own.ArrC Z .int [(iI 1), (iI 1), (iI 0), (iI 0)]) :: (of2, Own.ArrC Z .int [(.int f0), (.int p3), (iI 0), (iI 0)]) :: fr) := O20.pick 8 rfl
  have O22 : Own.Owns n0 h14 ((of2, Own.ArrC Z .int [(.int f0), (.int p3), (iI 0), (iI 0)]) :: (ol3, Own.ArrC Z .int [(iI 0), (iI 0), (iI 0), (iI 0)]) :: (ok, Own.ArrC Z .long [(jJ 0), (jJ 0), (jJ 0), (jJ 0)]) :: (op, OPo Z (.ref ra) (.ref rb) (iI (-1)) (iI (-1)) (.ref rt) (iI 2) (iI 0)) :: (ra, Own.ArrC Z .long [(jJ 0), (jJ 1), (jJ 0), (jJ 0), (jJ 0), (jJ 0), (jJ 0), (jJ 0), (jJ 0), (jJ 0), (jJ 0), (jJ 0), (jJ 0), (jJ 0), (jJ 0), (jJ 0)]) :: (rb, Own.ArrC Z .long [(jJ 0), (jJ 1), (jJ 0), (jJ 0), (jJ 0), (jJ 0), (jJ 0), (jJ 0), (jJ 0), (jJ 0), (jJ 0), (jJ 0), (jJ 0), (jJ 0), (jJ 0), (jJ 0)]) :: (rt, Own.ArrC Z (.object "java/math/BigDecimal") [.null, .null, .null, .null, .null, .null, .null, .null, .null, .null, .null, .null, .null, .null, .null, .null]) :: (o0, WEo Z (.ref op) (.ref oc1) (.ref of2) (.ref ol3) (.ref ok) (iI 0) (iI 2) (iI 0) (iI 0)) :: (oc1, Own.ArrC Z .int [(iI 1), (iI 1), (iI 0), (iI 0)]) :: fr) := O21.pick 8 rfl
  have O23 : Own.Owns n0 h14 ((oc1, Own.ArrC Z .int [(iI 1), (iI 1), (iI 0), (iI 0)]) :: (of2, Own.ArrC Z .int [(.int f0), (.int p3), (iI 0), (iI 0)]) :: (ol3, Own.ArrC Z .int [(iI 0), (iI 0), (iI 0), (iI 0)]) :: (ok, Own.ArrC Z .long [(jJ 0), (jJ 0), (jJ 0), (jJ 0)]) :: (op, OPo Z (.ref ra) (.ref rb) (iI (-1)) (iI (-1)) (.ref rt) (iI 2) (iI 0)) :: (ra, Own.ArrC Z .long [(jJ 0), (jJ 1), (jJ 0), (jJ 0), (jJ 0), (jJ 0), (jJ 0), (jJ 0), (jJ 0), (jJ 0), (jJ 0), (jJ 0), (jJ 0), (jJ 0), (jJ 0), (jJ 0)]) :: (rb, Own.ArrC Z .long [(jJ 0), (jJ 1), (jJ 0), (jJ 0), (jJ 0), (jJ 0), (jJ 0), (jJ 0), (jJ 0), (jJ 0), (jJ 0), (jJ 0), (jJ 0), (jJ 0), (jJ 0), (jJ 0)]) :: (rt, Own.ArrC Z (.object "java/math/BigDecimal") [.null, .null, .null, .null, .null, .null, .null, .null, .null, .null, .null, .null, .null, .null, .null, .null]) :: (o0, WEo Z (.ref op) (.ref oc1) (.ref of2) (.ref ol3) (.ref ok) (iI 0) (iI 2) (iI 0) (iI 0)) :: fr) := O22.pick 8 rfl
  have O24 : Own.Owns n0 h14 ((o0, WEo Z (.ref op) (.ref oc1) (.ref of2) (.ref ol3) (.ref ok) (iI 0) (iI 2) (iI 0) (iI 0)) :: (oc1, Own.ArrC Z .int [(iI 1), (iI 1), (iI 0), (iI 0)]) :: (of2, Own.ArrC Z .int [(.int f0), (.int p3), (iI 0), (iI 0)]) :: (ol3, Own.ArrC Z .int [(iI 0), (iI 0), (iI 0), (iI 0)]) :: (ok, Own.ArrC Z .long [(jJ 0), (jJ 0), (jJ 0), (jJ 0)]) :: (op, OPo Z (.ref ra) (.ref rb) (iI (-1)) (iI (-1)) (.ref rt) (iI 2) (iI 0)) :: (ra, Own.ArrC Z .long [(jJ 0), (jJ 1), (jJ 0), (jJ 0), (jJ 0), (jJ 0), (jJ 0), (jJ 0), (jJ 0), (jJ 0), (jJ 0), (jJ 0), (jJ 0), (jJ 0), (jJ 0), (jJ 0)]) :: (rb, Own.ArrC Z .long [(jJ 0), (jJ 1), (jJ 0), (jJ 0), (jJ 0), (jJ 0), (jJ 0), (jJ 0), (jJ 0), (jJ 0), (jJ 0), (jJ 0), (jJ 0), (jJ 0), (jJ 0), (jJ 0)]) :: (rt, Own.ArrC Z (.object "java/math/BigDecimal") [.null, .null, .null, .null, .null, .null, .null, .null, .null, .null, .null, .null, .null, .null, .null, .null]) :: fr) := O23.pick 8 rfl
  exact Own.retV hx hret hlk (hb hby d5_15) (by decide) (by decide) ⟨oc1, of2, ol3, rfl, O24⟩

theorem ef6_2 (m : MethodId) (x0 : Addr) (x1 : Int32) : entryFrame m #[(.ref x0), (.int x1)] 2 = mkF m 0 #[.val (.ref x0), .val (.int x1)] [] := by first | (simp [entryFrame, mkF, argsToLocals, Value.category]; done) | rfl
set_option maxRecDepth 65536 in
set_option maxHeartbeats 40000000 in
theorem rm6_2 (l : Launch) (Z : State) (a0 : Array Value) (hw : ∀ d ∈ tables_1, d.before a0 Z = true) (o0 : Addr) (p1 : Int32) (h0 : Heap) (n0 : Nat) (op oc of' ol ok : Addr) (f0 f1 : Int32) (fr : List (Addr × (Cell → Prop))) (O0 : Own.Owns n0 h0 ((o0, WEo Z (.ref op) (.ref oc) (.ref of') (.ref ol) (.ref ok) (iI 0) (iI 2) (iI 0) (iI 0)) :: (oc, Own.ArrC Z .int [(iI 1), (iI 1), (iI 0), (iI 0)]) :: (of', Own.ArrC Z .int [(.int f0), (.int f1), (iI 0), (iI 0)]) :: (ol, Own.ArrC Z .int [(iI 0), (iI 0), (iI 0), (iI 0)]) :: fr))  : Own.Does l (⟨"com/example/tracewarden/tracewarden/monitor/WindowEntries", "addStretch", "(I)V"⟩ : MethodName) prog_144_method_16_code 2 none [] ({ frames := 0, cells := 0, slots := 0, locals := 0 } : Room) Z #[(.ref o0), (.int p1)] h0 n0 (fun v h => ∃ oc2 of2 ol2, v = none ∧ Own.Owns n0 h ((o0, WEo Z (.ref op) (.ref oc2) (.ref of2) (.ref ol2) (.ref ok) (iI 0) (iI 3) (iI 0) (iI 0)) :: (oc2, Own.ArrC Z .int [(iI 1), (iI 1), (iI 1), (iI 0)]) :: (of2, Own.ArrC Z .int [(.int f0), (.int f1), (.int p1), (iI 0)]) :: (ol2, Own.ArrC Z .int [(iI 0), (iI 0), (iI 0), (iI 0)]) :: fr)) := by
  refine Own.doesOf pn7 ?_
  intro p e s m below meth c hx hby hml hret hlk hown hnm hZ
  refine Own.Goes.cast (ef6_2 m o0 p1) ?_
  refine Own.aloadN hx (.ref o0) (hb hby d6_0) rfl rfl rfl ?_
  refine Own.getfield hx hZ hown O0 0 6 rfl rfl (hw _ (wm 55 rfl)) (hb hby d6_1) rfl ?_
  refine Own.aloadN hx (.ref o0) (hb hby d6_4) rfl rfl rfl ?_
  refine Own.getfield hx hZ hown O0 0 1 rfl rfl (hw _ (wm 36 rfl)) (hb hby d6_5) rfl ?_
  refine Own.arrlen hx hZ O0 1 rfl (4 : Int32) rfl (hb hby d6_8) rfl ?_
  have hc1 : ¬ ((2 : Int32) = (4 : Int32)) := by decide
  refine Own.icmpFn hx (Own.q_ne (2 : Int32) (4 : Int32)) (hb hby d6_9) (pcN := 12) rfl (by decide) (pcT := 63) rfl (fun _ => ?_) (fun q => absurd q hc1)
  refine Own.aloadN hx (.ref o0) (hb hby d6_63) rfl rfl rfl ?_
  refine Own.getfield hx hZ hown O0 0 1 rfl rfl (hw _ (wm 36 rfl)) (hb hby d6_64) rfl ?_
  refine Own.aloadN hx (.ref o0) (hb hby d6_67) rfl rfl rfl ?_
  refine Own.getfield hx hZ hown O0 0 6 rfl rfl (hw _ (wm 55 rfl)) (hb hby d6_68) rfl ?_
  refine Own.iconst hx (1 : Int32) (hb hby d6_71) rfl (by decide) ?_
  refine Own.iastore hx hZ O0 1 2 rfl (by decide) (by exact (show 2 < 4 by decide)) ((o0, WEo Z (.ref op) (.ref oc) (.ref of') (.ref ol) (.ref ok) (iI 0) (iI 2) (iI 0) (iI 0)) :: (oc, Own.ArrC Z .int [(iI 1), (iI 1), (iI 1), (iI 0)]) :: (of', Own.ArrC Z .int [(.int f0), (.int f1), (iI 0), (iI 0)]) :: (ol, Own.ArrC Z .int [(iI 0), (iI 0), (iI 0), (iI 0)]) :: fr) rfl (hb hby d6_72) rfl ?_
  intro h3 O4
  refine Own.aloadN hx (.ref o0) (hb hby d6_73) rfl rfl rfl ?_
  refine Own.getfield hx hZ hown O4 0 2 rfl rfl (hw _ (wm 38 rfl)) (hb hby d6_74) rfl ?_
  refine Own.aloadN hx (.ref o0) (hb hby d6_77) rfl rfl rfl ?_
  refine Own.dup hx (hb hby d6_78) rfl rfl ?_
  refine Own.getfield hx hZ hown O4 0 6 rfl rfl (hw _ (wm 55 rfl)) (hb hby d6_79) rfl ?_
  refine Own.dupX1 hx (hb hby d6_82) rfl rfl rfl ?_
  refine Own.iconst hx (1 : Int32) (hb hby d6_83) rfl (by decide) ?_
  refine Own.iadd hx (hb hby d6_84) rfl ?_
  refine Own.vI (3 : Int32) (by decide) ?_
  refine Own.putfield hx hZ hown O4 0 6 rfl rfl (hw _ (wm 55 rfl)) (Or.inl (hw _ (wm 56 rfl))) (hw _ (wm 2 rfl)) (ty := .int) (by decide) rfl rfl ((o0, WEo Z (.ref op) (.ref oc) (.ref of') (.ref ol) (.ref ok) (iI 0) (iI 3) (iI 0) (iI 0)) :: (oc, Own.ArrC Z .int [(iI 1), (iI 1), (iI 1), (iI 0)]) :: (of', Own.ArrC Z .int [(.int f0), (.int f1), (iI 0), (iI 0)]) :: (ol, Own.ArrC Z .int [(iI 0), (iI 0), (iI 0), (iI 0)]) :: fr) rfl (hb hby d6_85) rfl ?_
  intro h5 O6
  refine Own.iloadN hx p1 (hb hby d6_88) rfl rfl ?_
  refine Own.iastore hx hZ O6 2 2 rfl (by decide) (by exact (show 2 < 4 by decide)) ((o0, WEo Z (.ref op) (.ref oc) (.ref of') (.ref ol) (.ref ok) (iI 0) (iI 3) (iI 0) (iI 0)) :: (oc, Own.ArrC Z .int [(iI 1), (iI 1), (iI 1), (iI 0)]) :: (of', Own.ArrC Z .int [(.int f0), (.int f1), (.int p1), (iI 0)]) :: (ol, Own.ArrC Z .int [(iI 0), (iI 0), (iI 0), (iI 0)]) :: fr) rfl (hb hby d6_89) rfl ?_
  intro h7 O8
  have O9 : Own.Owns n0 h7 ((ol, Own.ArrC Z .int [(iI 0), (iI 0), (iI 0), (iI 0)]) :: (o0, WEo Z (.ref op) (.ref oc) (.ref of') (.ref ol) (.ref ok) (iI 0) (iI 3) (iI 0) (iI 0)) :: (oc, Own.ArrC Z .int [(iI 1), (iI 1), (iI 1), (iI 0)]) :: (of', Own.ArrC Z .int [(.int f0), (.int f1), (.int p1), (iI 0)]) :: fr) := O8.pick 3 rfl
  have O10 : Own.Owns n0 h7 ((of', Own.ArrC Z .int [(.int f0), (.int f1), (.int p1), (iI 0)]) :: (ol, Own.ArrC Z .int [(iI 0), (iI 0), (iI 0), (iI 0)]) :: (o0, WEo Z (.ref op) (.ref oc) (.ref of') (.ref ol) (.ref ok) (iI 0) (iI 3) (iI 0) (iI 0)) :: (oc, Own.ArrC Z .int [(iI 1), (iI 1), (iI 1), (iI 0)]) :: fr) := O9.pick 3 rfl
  have O11 : Own.Owns n0 h7 ((oc, Own.ArrC Z .int [(iI 1), (iI 1), (iI 1), (iI 0)]) :: (of', Own.ArrC Z .int [(.int f0), (.int f1), (.int p1), (iI 0)]) :: (ol, Own.ArrC Z .int [(iI 0), (iI 0), (iI 0), (iI 0)]) :: (o0, WEo Z (.ref op) (.ref oc) (.ref of') (.ref ol) (.ref ok) (iI 0) (iI 3) (iI 0) (iI 0)) :: fr) := O10.pick 3 rfl
  have O12 : Own.Owns n0 h7 ((o0, WEo Z (.ref op) (.ref oc) (.ref of') (.ref ol) (.ref ok) (iI 0) (iI 3) (iI 0) (iI 0)) :: (oc, Own.ArrC Z .int [(iI 1), (iI 1), (iI 1), (iI 0)]) :: (of', Own.ArrC Z .int [(.int f0), (.int f1), (.int p1), (iI 0)]) :: (ol, Own.ArrC Z .int [(iI 0), (iI 0), (iI 0), (iI 0)]) :: fr) := O11.pick 3 rfl
  exact Own.retV hx hret hlk (hb hby d6_90) (by decide) (by decide) ⟨oc, of', ol, rfl, O12⟩

theorem ef5_2 (m : MethodId) (x0 : Addr) (x1 : Int64) (x3 : Int32) : entryFrame m #[(.ref x0), (.long x1), .null, (.int x3)] 5 = mkF m 0 #[.val (.ref x0), .val (.long x1), .second, .val .null, .val (.int x3)] [] := by first | (simp [entryFrame, mkF, argsToLocals, Value.category]; done) | rfl
set_option maxRecDepth 65536 in
set_option maxHeartbeats 40000000 in
theorem rm5_2 (l : Launch) (Z : State) (a0 : Array Value) (hw : ∀ d ∈ tables_1, d.before a0 Z = true) (o0 : Addr) (p3 : Int32) (h0 : Heap) (n0 : Nat) (oc of' ol ok op ra rb rt : Addr) (f0 f1 : Int32) (fr : List (Addr × (Cell → Prop))) (O0 : Own.Owns n0 h0 ((o0, WEo Z (.ref op) (.ref oc) (.ref of') (.ref ol) (.ref ok) (iI 0) (iI 2) (iI 0) (iI 0)) :: (oc, Own.ArrC Z .int [(iI 1), (iI 1), (iI 0), (iI 0)]) :: (of', Own.ArrC Z .int [(.int f0), (.int f1), (iI 0), (iI 0)]) :: (ol, Own.ArrC Z .int [(iI 0), (iI 0), (iI 0), (iI 0)]) :: (ok, Own.ArrC Z .long [(jJ 0), (jJ 0), (jJ 0), (jJ 0)]) :: (op, OPo Z (.ref ra) (.ref rb) (iI (-1)) (iI (-1)) (.ref rt) (iI 2) (iI 0)) :: (ra, Own.ArrC Z .long [(jJ 0), (jJ 1), (jJ 0), (jJ 0), (jJ 0), (jJ 0), (jJ 0), (jJ 0), (jJ 0), (jJ 0), (jJ 0), (jJ 0), (jJ 0), (jJ 0), (jJ 0), (jJ 0)]) :: (rb, Own.ArrC Z .long [(jJ 0), (jJ 1), (jJ 0), (jJ 0), (jJ 0), (jJ 0), (jJ 0), (jJ 0), (jJ 0), (jJ 0), (jJ 0), (jJ 0), (jJ 0), (jJ 0), (jJ 0), (jJ 0)]) :: (rt, Own.ArrC Z (.object "java/math/BigDecimal") [.null, .null, .null, .null, .null, .null, .null, .null, .null, .null, .null, .null, .null, .null, .null, .null]) :: fr))  : Own.Does l (⟨"com/example/tracewarden/tracewarden/monitor/WindowEntries", "add", "(JLjava/math/BigDecimal;I)V"⟩ : MethodName) prog_144_method_14_code 5 none [] ({ frames := 2, cells := 0, slots := 0, locals := 30 } : Room) Z #[(.ref o0), (.long (2 : Int64)), .null, (.int p3)] h0 n0 (fun v h => ∃ oc2 of2 ol2, v = none ∧ Own.Owns n0 h ((o0, WEo Z (.ref op) (.ref oc2) (.ref of2) (.ref ol2) (.ref ok) (iI 0) (iI 3) (iI 0) (iI 0)) :: (oc2, Own.ArrC Z .int [(iI 1), (iI 1), (iI 1), (iI 0)]) :: (of2, Own.ArrC Z .int [(.int f0), (.int f1), (.int p3), (iI 0)]) :: (ol2, Own.ArrC Z .int [(iI 0), (iI 0), (iI 0), (iI 0)]) :: (ok, Own.ArrC Z .long [(jJ 0), (jJ 0), (jJ 0), (jJ 0)]) :: (op, OPo Z (.ref ra) (.ref rb) (iI (-1)) (iI (-1)) (.ref rt) (iI 3) (iI 0)) :: (ra, Own.ArrC Z .long [(jJ 0), (jJ 1), (jJ 2), (jJ 0), (jJ 0), (jJ 0), (jJ 0), (jJ 0), (jJ 0), (jJ 0), (jJ 0), (jJ 0), (jJ 0), (jJ 0), (jJ 0), (jJ 0)]) :: (rb, Own.ArrC Z .long [(jJ 0), (jJ 1), (jJ 2), (jJ 0), (jJ 0), (jJ 0), (jJ 0), (jJ 0), (jJ 0), (jJ 0), (jJ 0), (jJ 0), (jJ 0), (jJ 0), (jJ 0), (jJ 0)]) :: (rt, Own.ArrC Z (.object "java/math/BigDecimal") [.null, .null, .null, .null, .null, .null, .null, .null, .null, .null, .null, .null, .null, .null, .null, .null]) :: fr)) := by
  refine Own.doesOf pn8 ?_
  intro p e s m below meth c hx hby hml hret hlk hown hnm hZ
  refine Own.Goes.cast (ef5_2 m o0 (2 : Int64) p3) ?_
  refine Own.aloadN hx (.ref o0) (hb hby d5_0) rfl rfl rfl ?_
  refine Own.iload hx p3 (hb hby d5_1) rfl rfl ?_
  have O4 : Own.Owns n0 h0 ((ol, Own.ArrC Z .int [(iI 0), (iI 0), (iI 0), (iI 0)]) :: (o0, WEo Z (.ref op) (.ref oc) (.ref of') (.ref ol) (.ref ok) (iI 0) (iI 2) (iI 0) (iI 0)) :: (oc, Own.ArrC Z .int [(iI 1), (iI 1), (iI 0), (iI 0)]) :: (of', Own.ArrC Z .int [(.int f0), (.int f1), (iI 0), (iI 0)]) :: (ok, Own.ArrC Z .long [(jJ 0), (jJ 0), (jJ 0), (jJ 0)]) :: (op, OPo Z (.ref ra) (.ref rb) (iI (-1)) (iI (-1)) (.ref rt) (iI 2) (iI 0)) :: (ra, Own.ArrC Z .long [(jJ 0), (jJ 1), (jJ 0), (jJ 0), (jJ 0), (jJ 0), (jJ 0), (jJ 0), (jJ 0), (jJ 0), (jJ 0), (jJ 0), (jJ 0), (jJ 0), (jJ 0), (jJ 0)]) :: (rb, Own.ArrC Z .long [(jJ 0), (jJ 1), (jJ 0), (jJ 0), (jJ 0), (jJ 0), (jJ 0), (jJ 0), (jJ 0), (jJ 0), (jJ 0), (jJ 0), (jJ 0), (jJ 0), (jJ 0), (jJ 0)]) :: (rt, Own.ArrC Z (.object "java/math/BigDecimal") [.null, .null, .null, .null, .null, .null, .null, .null, .null, .null, .null, .null, .null, .null, .null, .null]) :: fr) := O0.pick 3 rfl
  have O5 : Own.Owns n0 h0 ((of', Own.ArrC Z .int [(.int f0), (.int f1), (iI 0), (iI 0)]) :: (ol, Own.ArrC Z .int [(iI 0), (iI 0), (iI 0), (iI 0)]) :: (o0, WEo Z (.ref op) (.ref oc) (.ref of') (.ref ol) (.ref ok) (iI 0) (iI 2) (iI 0) (iI 0)) :: (oc, Own.ArrC Z .int [(iI 1), (iI 1), (iI 0), (iI 0)]) :: (ok, Own.ArrC Z .long [(jJ 0), (jJ 0), (jJ 0), (jJ 0)]) :: (op, OPo Z (.ref ra) (.ref rb) (iI (-1)) (iI (-1)) (.ref rt) (iI 2) (iI 0)) :: (ra, Own.ArrC Z .long [(jJ 0), (jJ 1), (jJ 0), (jJ 0), (jJ 0), (jJ 0), (jJ 0), (jJ 0), (jJ 0), (jJ 0), (jJ 0), (jJ 0), (jJ 0), (jJ 0), (jJ 0), (jJ 0)]) :: (rb, Own.ArrC Z .long [(jJ 0), (jJ 1), (jJ 0), (jJ 0), (jJ 0), (jJ 0), (jJ 0), (jJ 0), (jJ 0), (jJ 0), (jJ 0), (jJ 0), (jJ 0), (jJ 0), (jJ 0), (jJ 0)]) :: (rt, Own.ArrC Z (.object "java/math/BigDecimal") [.null, .null, .null, .null, .null, .null, .null, .null, .null, .null, .null, .null, .null, .null, .null, .null]) :: fr) := O4.pick 3 rfl
  have O6 : Own.Owns n0 h0 ((oc, Own.ArrC Z .int [(iI 1), (iI 1), (iI 0), (iI 0)]) :: (of', Own.ArrC Z .int [(.int f0), (.int f1), (iI 0), (iI 0)]) :: (ol, Own.ArrC Z .int [(iI 0), (iI 0), (iI 0), (iI 0)]) :: (o0, WEo Z (.ref op) (.ref oc) (.ref of') (.ref ol) (.ref ok) (iI 0) (iI 2) (iI 0) (iI 0)) :: (ok, Own.ArrC Z .long [(jJ 0), (jJ 0), (jJ 0), (jJ 0)]) :: (op, OPo Z (.ref ra) (.ref rb) (iI (-1)) (iI (-1)) (.ref rt) (iI 2) (iI 0)) :: (ra, Own.ArrC Z .long [(jJ 0), (jJ 1), (jJ 0), (jJ 0), (jJ 0), (jJ 0), (jJ 0), (jJ 0), (jJ 0), (jJ 0), (jJ 0), (jJ 0), (jJ 0), (jJ 0), (jJ 0), (jJ 0)]) :: (rb, Own.ArrC Z .long [(jJ 0), (jJ 1), (jJ 0), (jJ 0), (jJ 0), (jJ 0), (jJ 0), (jJ 0), (jJ 0), (jJ 0), (jJ 0), (jJ 0), (jJ 0), (jJ 0), (jJ 0), (jJ 0)]) :: (rt, Own.ArrC Z (.object "java/math/BigDecimal") [.null, .null, .null, .null, .null, .null, .null, .null, .null, .null, .null, .null, .null, .null, .null, .null]) :: fr) := O5.pick 3 rfl
  have O7 : Own.Owns n0 h0 ((o0, WEo Z (.ref op) (.ref oc) (.ref of') (.ref ol) (.ref ok) (iI 0) (iI 2) (iI 0) (iI 0)) :: (oc, Own.ArrC Z .int [(iI 1), (iI 1), (iI 0), (iI 0)]) :: (of', Own.ArrC Z .int [(.int f0), (.int f1), (iI 0), (iI 0)]) :: (ol, Own.ArrC Z .int [(iI 0), (iI 0), (iI 0), (iI 0)]) :: (ok, Own.ArrC Z .long [(jJ 0), (jJ 0), (jJ 0), (jJ 0)]) :: (op, OPo Z (.ref ra) (.ref rb) (iI (-1)) (iI (-1)) (.ref rt) (iI 2) (iI 0)) :: (ra, Own.ArrC Z .long [(jJ 0), (jJ 1), (jJ 0), (jJ 0), (jJ 0), (jJ 0), (jJ 0), (jJ 0), (jJ 0), (jJ 0), (jJ 0), (jJ 0), (jJ 0), (jJ 0), (jJ 0), (jJ 0)]) :: (rb, Own.ArrC Z .long [(jJ 0), (jJ 1), (jJ 0), (jJ 0), (jJ 0), (jJ 0), (jJ 0), (jJ 0), (jJ 0), (jJ 0), (jJ 0), (jJ 0), (jJ 0), (jJ 0), (jJ 0), (jJ 0)]) :: (rt, Own.ArrC Z (.object "java/math/BigDecimal") [.null, .null, .null, .null, .null, .null, .null, .null, .null, .null, .null, .null, .null, .null, .null, .null]) :: fr) := O6.pick 3 rfl
  refine Own.callP hx hZ hown (O7.exa (i := 0) rfl) (hw _ (wm 51 rfl)) (hw _ (wm 52 rfl)) (hw _ (wm 2 rfl)) (hw _ (wm 53 rfl)) (hw _ (wm 3 rfl)) (hw _ (wm 54 rfl)) (by decide) pd3 (argsL := [(.int p3)]) (rest := []) rfl (W := 0) (Nat.le_of_eq rfl) (rm := ({ frames := 0, cells := 0, slots := 0, locals := 0 } : Room)) (by decide) (by decide) (by decide) (by decide) (k' := 0) (n' := 0) rfl rfl (by rw [hml]; rfl) [(.int p3), (.ref o0)] rfl (hb hby d5_3) (pc' := 6) rfl (rm6_2 l Z a0 hw o0 p3 h0 n0 op oc of' ol ok f0 f1 ((ok, Own.ArrC Z .long [(jJ 0), (jJ 0), (jJ 0), (jJ 0)]) :: (op, OPo Z (.ref ra) (.ref rb) (iI (-1)) (iI (-1)) (.ref rt) (iI 2) (iI 0)) :: (ra, Own.ArrC Z .long [(jJ 0), (jJ 1), (jJ 0), (jJ 0), (jJ 0), (jJ 0), (jJ 0), (jJ 0), (jJ 0), (jJ 0), (jJ 0), (jJ 0), (jJ 0), (jJ 0), (jJ 0), (jJ 0)]) :: (rb, Own.ArrC Z .long [(jJ 0), (jJ 1), (jJ 0), (jJ 0), (jJ 0), (jJ 0), (jJ 0), (jJ 0), (jJ 0), (jJ 0), (jJ 0), (jJ 0), (jJ 0), (jJ 0), (jJ 0), (jJ 0)]) :: (rt, Own.ArrC Z (.object "java/math/BigDecimal") [.null, .null, .null, .null, .null, .null, .null, .null, .null, .null, .null, .null, .null, .null, .null, .null]) :: fr) O7) ?_
  rintro _ h8 ⟨oc1, of2, ol3, rfl, O9⟩
  show Own.Goes _ _ _ _ _ _ _ _ _ _ _ _ _ _ _ _ _ (mkF m 6 #[.val (.ref o0), .val (.long (2 : Int64)), .second, .val .null, .val (.int p3)] [])
  refine Own.aloadN hx (.ref o0) (hb hby d5_6) rfl rfl rfl ?_
  refine Own.getfield hx hZ hown O9 0 0 rfl rfl (hw _ (wm 33 rfl)) (hb hby d5_7) rfl ?_
  refine Own.lloadN hx (2 : Int64) (hb hby d5_10) rfl rfl ?_
  refine Own.aloadN hx .null (hb hby d5_11) rfl rfl rfl ?_
  have O10 : Own.Owns n0 h8 ((rt, Own.ArrC Z (.object "java/math/BigDecimal") [.null, .null, .null, .null, .null, .null, .null, .null, .null, .null, .null, .null, .null, .null, .null, .null]) :: (o0, WEo Z (.ref op) (.ref oc1) (.ref of2) (.ref ol3) (.ref ok) (iI 0) (iI 3) (iI 0) (iI 0)) :: (oc1, Own.ArrC Z .int [(iI 1), (iI 1), (iI 1), (iI 0)]) :: (of2, Own.ArrC Z .int [(.int f0), (.int f1), (.int p3), (iI 0)]) :: (ol3, Own.ArrC Z .int [(iI 0), (iI 0), (iI 0), (iI 0)]) :: (ok, Own.ArrC Z .long [(jJ 0), (jJ 0), (jJ 0), (jJ 0)]) :: (op, OPo Z (.ref ra) (.ref rb) (iI (-1)) (iI (-1)) (.ref rt) (iI 2) (iI 0)) :: (ra, Own.ArrC Z .long [(jJ 0), (jJ 1), (jJ 0), (jJ 0), (jJ 0), (jJ 0), (jJ 0), (jJ 0), (jJ 0), (jJ 0), (jJ 0), (jJ 0), (jJ 0), (jJ 0), (jJ 0), (jJ 0)]) :: (rb, Own.ArrC Z .long [(jJ 0), (jJ 1), (jJ 0), (jJ 0), (jJ 0), (jJ 0), (jJ 0), (jJ 0), (jJ 0), (jJ 0), (jJ 0), (jJ 0), (jJ 0), (jJ 0), (jJ 0), (jJ 0)]) :: fr) := O9.pick 8 rfl
  have O11 : Own.Owns n0 h8 ((rb, Own.ArrC Z .long [(jJ 0), (jJ 1), (jJ 0), (jJ 0), (jJ 0), (jJ 0), (jJ 0), (jJ 0), (jJ 0), (jJ 0), (jJ 0), (jJ 0), (jJ 0), (jJ 0), (jJ 0), (jJ 0)]) :: (rt, Own.ArrC Z (.object "java/math/BigDecimal") [.null, .null, .null, .null, .null, .null, .null, .null, .null, .null, .null, .null, .null, .null, .null, .null]) :: (o0, WEo Z (.ref op) (.ref oc1) (.ref of2) (.ref ol3) (.ref ok) (iI 0) (iI 3) (iI 0) (iI 0)) :: (oc1, Own.ArrC Z .int [(iI 1), (iI 1), (iI 1), (iI 0)]) :: (of2, Own.ArrC Z .int [(.int f0), (.int f1), (.int p3), (iI 0)]) :: (ol3, Own.ArrC Z .int [(iI 0), (iI 0), (iI 0), (iI 0)]) :: (ok, Own.ArrC Z .long [(jJ 0), (jJ 0), (jJ 0), (jJ 0)]) :: (op, OPo Z (.ref ra) (.ref rb) (iI (-1)) (iI (-1)) (.ref rt) (iI 2) (iI 0)) :: (ra, Own.ArrC Z .long [(jJ 0), (jJ 1), (jJ 0), (jJ 0), (jJ 0), (jJ 0), (jJ 0), (jJ 0), (jJ 0), (jJ 0), (jJ 0), (jJ 0), (jJ 0), (jJ 0), (jJ 0), (jJ 0)]) :: fr) := O10.pick 8 rfl
  have O12 : Own.Owns n0 h8 ((ra, Own.ArrC Z .long [(jJ 0), (jJ 1), (jJ 0), (jJ 0), (jJ 0), (jJ 0), (jJ 0), (jJ 0), (jJ 0), (jJ 0), (jJ 0), (jJ 0), (jJ 0), (jJ 0), (jJ 0), (jJ 0)]) :: (rb, Own.ArrC Z .long [(jJ 0), (jJ 1), (jJ 0), (jJ 0), (jJ 0), (jJ 0), (jJ 0), (jJ 0), (jJ 0), (jJ 0), (jJ 0), (jJ 0), (jJ 0), (jJ 0), (jJ 0), (jJ 0)]) :: (rt, Own.ArrC Z (.object "java/math/BigDecimal") [.null, .null, .null, .null, .null, .null, .null, .null, .null, .null, .null, .null, .null, .null, .null, .null]) :: (o0, WEo Z (.ref op) (.ref oc1) (.ref of2) (.ref ol3) (.ref ok) (iI 0) (iI 3) (iI 0) (iI 0)) :: (oc1, Own.ArrC Z .int [(iI 1), (iI 1), (iI 1), (iI 0)]) :: (of2, Own.ArrC Z .int [(.int f0), (.int f1), (.int p3), (iI 0)]) :: (ol3, Own.ArrC Z .int [(iI 0), (iI 0), (iI 0), (iI 0)]) :: (ok, Own.ArrC Z .long [(jJ 0), (jJ 0), (jJ 0), (jJ 0)]) :: (op, OPo Z (.ref ra) (.ref rb) (iI (-1)) (iI (-1)) (.ref rt) (iI 2) (iI 0)) :: fr) := O11.pick 8 rfl
  have O13 : Own.Owns n0 h8 ((op, OPo Z (.ref ra) (.ref rb) (iI (-1)) (iI (-1)) (.ref rt) (iI 2) (iI 0)) :: (ra, Own.ArrC Z .long [(jJ 0), (jJ 1), (jJ 0), (jJ 0), (jJ 0), (jJ 0), (jJ 0), (jJ 0), (jJ 0), (jJ 0), (jJ 0), (jJ 0), (jJ 0), (jJ 0), (jJ 0), (jJ 0)]) :: (rb, Own.ArrC Z .long [(jJ 0), (jJ 1), (jJ 0), (jJ 0), (jJ 0), (jJ 0), (jJ 0), (jJ 0), (jJ 0), (jJ 0), (jJ 0), (jJ 0), (jJ 0), (jJ 0), (jJ 0), (jJ 0)]) :: (rt, Own.ArrC Z (.object "java/math/BigDecimal") [.null, .null, .null, .null, .null, .null, .null, .null, .null, .null, .null, .null, .null, .null, .null, .null]) :: (o0, WEo Z (.ref op) (.ref oc1) (.ref of2) (.ref ol3) (.ref ok) (iI 0) (iI 3) (iI 0) (iI 0)) :: (oc1, Own.ArrC Z .int [(iI 1), (iI 1), (iI 1), (iI 0)]) :: (of2, Own.ArrC Z .int [(.int f0), (.int f1), (.int p3), (iI 0)]) :: (ol3, Own.ArrC Z .int [(iI 0), (iI 0), (iI 0), (iI 0)]) :: (ok, Own.ArrC Z .long [(jJ 0), (jJ 0), (jJ 0), (jJ 0)]) :: fr) := O12.pick 8 rfl
  refine Own.callV hx hZ hown (O13.exa (i := 0) rfl) (hw _ (wm 57 rfl)) (hw _ (wm 58 rfl)) (hw _ (wm 60 rfl)) (hw _ (wm 59 rfl)) (hw _ (wm 12 rfl)) (hw _ (wm 61 rfl)) (by decide) pd4 (argsL := [(.long (2 : Int64)), .null]) (rest := []) rfl (W := 0) (Nat.le_of_eq rfl) (rm := ({ frames := 1, cells := 0, slots := 0, locals := 12 } : Room)) (by decide) (by decide) (by decide) (by decide) (k' := 0) (n' := 0) rfl rfl (by rw [hml]; rfl) [.null, (.long (2 : Int64)), (.ref op)] rfl (hb hby d5_12) (pc' := 15) rfl (rm7_2 l Z a0 hw op h8 n0 ra rb rt ((o0, WEo Z (.ref op) (.ref oc1) (.ref of2) (.ref ol3) (.ref ok) (iI 0) (iI 3) (iI 0) (iI 0)) :: (oc1, Own.ArrC Z .int [(iI 1), (iI 1), (iI 1), (iI 0)]) :: (of2, Own.ArrC Z .int [(.int f0), (.int f1), (.int p3), (iI 0)]) :: (ol3, Own.ArrC Z .int [(iI 0), (iI 0), (iI 0), (iI 0)]) :: (ok, Own.ArrC Z .long [(jJ 0), (jJ 0), (jJ 0), (jJ 0)]) :: fr) O13) ?_
  rintro _ h14 ⟨rfl, O15⟩
  show Own.Goes _ _ _ _ _ _ _ _ _ _ _ _ _ _ _ _ _ (mkF m 15 #[.val (.ref o0), .val (.long (2 : Int64)), .second, .val .null, .val (.int p3)] [])
  have O16 : Own.Owns n0 h14 ((rt, Own.ArrC Z (.object "java/math/BigDecimal") [.null, .null, .null, .null, .null, .null, .null, .null, .null, .null, .null, .null, .null, .null, .null, .null]) :: (op, OPo Z (.ref ra) (.ref rb) (iI (-1)) (iI (-1)) (.ref rt) (iI 3) (iI 0)) :: (ra, Own.ArrC Z .long [(jJ 0), (jJ 1), (jJ 2), (jJ 0), (jJ 0), (jJ 0), (jJ 0), (jJ 0), (jJ 0), (jJ 0), (jJ 0), (jJ 0), (jJ 0), (jJ 0), (jJ 0), (jJ 0)]) :: (rb, Own.ArrC Z .long [(jJ 0), (jJ 1), (jJ 2), (jJ 0), (jJ 0), (jJ 0), (jJ 0), (jJ 0), (jJ 0), (jJ 0), (jJ 0), (jJ 0), (jJ 0), (jJ 0), (jJ 0), (jJ 0)]) :: (o0, WEo Z (.ref op) (.ref oc1) (.ref of2) (.ref ol3) (.ref ok) (iI 0) (iI 3) (iI 0) (iI 0)) :: (oc1, Own.ArrC Z .int [(iI 1), (iI 1), (iI 1), (iI 0)]) :: (of2, Own.ArrC Z .int [(.int f0), (.int f1), (.int p3), (iI 0)]) :: (ol3, Own.ArrC Z .int [(iI 0), (iI 0), (iI 0), (iI 0)]) :: (ok, Own.ArrC Z .long [(jJ 0), (jJ 0), (jJ 0), (jJ 0)]) :: fr) := O15.pick 3 rfl
  have O17 : Own.Owns n0 h14 ((rb, Own.ArrC Z .long [(jJ 0), (jJ 1), (jJ 2), (jJ 0), (jJ 0), (jJ 0), (jJ 0), (jJ 0), (jJ 0), (jJ 0), (jJ 0), (jJ 0), (jJ 0), (jJ 0), (jJ 0), (jJ 0)]) :: (rt, Own.ArrC Z (.object "java/math/BigDecimal") [.null, .null, .null, .null, .null, .null, .null, .null, .null, .null, .null, .null, .null, .null, .null, .null]) :: (op, OPo Z (.ref ra) (.ref rb) (iI (-1)) (iI (-1)) (.ref rt) (iI 3) (iI 0)) :: (ra, Own.ArrC Z .long [(jJ 0), (jJ 1), (jJ 2), (jJ 0), (jJ 0), (jJ 0), (jJ 0), (jJ 0), (jJ 0), (jJ 0), (jJ 0), (jJ 0), (jJ 0), (jJ 0), (jJ 0), (jJ 0)]) :: (o0, WEo Z (.ref op) (.ref oc1) (.ref of2) (.ref ol3) (.ref ok) (iI 0) (iI 3) (iI 0) (iI 0)) :: (oc1, Own.ArrC Z .int [(iI 1), (iI 1), (iI 1), (iI 0)]) :: (of2, Own.ArrC Z .int [(.int f0), (.int f1), (.int p3), (iI 0)]) :: (ol3, Own.ArrC Z .int [(iI 0), (iI 0), (iI 0), (iI 0)]) :: (ok, Own.ArrC Z .long [(jJ 0), (jJ 0), (jJ 0), (jJ 0)]) :: fr) := O16.pick 3 rfl
  have O18 : Own.Owns n0 h14 ((ra, Own.ArrC Z .long [(jJ 0), (jJ 1), (jJ 2), (jJ 0), (jJ 0), (jJ 0), (jJ 0), (jJ 0), (jJ 0), (jJ 0), (jJ 0), (jJ 0), (jJ 0), (jJ 0), (jJ 0), (jJ 0)]) :: (rb, Own.ArrC Z .long [(jJ 0), (jJ 1), (jJ 2), (jJ 0), (jJ 0), (jJ 0), (jJ 0), (jJ 0), (jJ 0), (jJ 0), (jJ 0), (jJ 0), (jJ 0), (jJ 0), (jJ 0), (jJ 0)]) :: (rt, Own.ArrC Z (.object "java/math/BigDecimal") [.null, .null, .null, .null, .null, .null, .null, .null, .null, .null, .null, .null, .null, .null, .null, .null]) :: (op, OPo Z (.ref ra) (.ref rb) (iI (-1)) (iI (-1)) (.ref rt) (iI 3) (iI 0)) :: (o0, WEo Z (.ref op) (.ref oc1) (.ref of2) (.ref ol3) (.ref ok) (iI 0) (iI 3) (iI 0) (iI 0)) :: (oc1, Own.ArrC Z .int [(iI 1), (iI 1), (iI 1), (iI 0)]) :: (of2, Own.ArrC Z .int [(.int f0), (.int f1), (.int p3), (iI 0)]) :: (ol3, Own.ArrC Z .int [(iI 0), (iI 0), (iI 0), (iI 0)]) :: (ok, Own.ArrC Z .long [(jJ 0), (jJ 0), (jJ 0), (jJ 0)]) :: fr) := O17.pick 3 rfl
  have O19 : Own.Owns n0 h14 ((op, OPo Z (.ref ra) (.ref rb) (iI (-1)) (iI (-1)) (.ref rt) (iI 3) (iI 0)) :: (ra, Own.ArrC Z .long [(jJ 0), (jJ 1), (jJ 2), (jJ 0), (jJ 0), (jJ 0), (jJ 0), (jJ 0), (jJ 0), (jJ 0), (jJ 0), (jJ 0), (jJ 0), (jJ 0), (jJ 0), (jJ 0)]) :: (rb, Own.ArrC Z .long [(jJ 0), (jJ 1), (jJ 2), (jJ 0), (jJ 0), (jJ 0), (jJ 0), (jJ 0), (jJ 0), (jJ 0), (jJ 0), (jJ 0), (jJ 0), (jJ 0), (jJ 0), (jJ 0)]) :: (rt, Own.ArrC Z (.object "java/math/BigDecimal") [.null, .null, .null, .null, .null, .null, .null, .null, .null, .null, .null, .null, .null, .null, .null, .null]) :: (o0, WEo Z (.ref op) (.ref oc1) (.ref of2) (.ref ol3) (.ref ok) (iI 0) (iI 3) (iI 0) (iI 0)) :: (oc1, Own.ArrC Z .int [(iI 1), (iI 1), (iI 1), (iI 0)]) :: (of2, Own.ArrC Z .int [(.int f0), (.int f1), (.int p3), (iI 0)]) :: (ol3, Own.ArrC Z .int [(iI 0), (iI 0), (iI 0), (iI 0)]) :: (ok, Own.ArrC Z .long [(jJ 0), (jJ 0), (jJ 0), (jJ 0)]) :: fr) := O18.pick 3 rfl
  have O20 : Own.Owns n0 h14 ((ok, Own.ArrC Z .long [(jJ 0), (jJ 0), (jJ 0), (jJ 0)]) :: (op, OPo Z (.ref ra) (.ref rb) (iI (-1)) (iI (-1)) (.ref rt) (iI 3) (iI 0)) :: (ra, Own.ArrC Z .long [(jJ 0), (jJ 1), (jJ 2), (jJ 0), (jJ 0), (jJ 0), (jJ 0), (jJ 0), (jJ 0), (jJ 0), (jJ 0), (jJ 0), (jJ 0), (jJ 0), (jJ 0), (jJ 0)]) :: (rb, Own.ArrC Z .long [(jJ 0), (jJ 1), (jJ 2), (jJ 0), (jJ 0), (jJ 0), (jJ 0), (jJ 0), (jJ 0), (jJ 0), (jJ 0), (jJ 0), (jJ 0), (jJ 0), (jJ 0), (jJ 0)]) :: (rt, Own.ArrC Z (.object "java/math/BigDecimal") [.null, .null, .null, .null, .null, .null, .null, .null, .null, .null, .null, .null, .null, .null, .null, .null]) :: (o0, WEo Z (.ref op) (.ref oc1) (.ref of2) (.ref ol3) (.ref ok) (iI 0) (iI 3) (iI 0) (iI 0)) :: (oc1, Own.ArrC Z .int [(iI 1), (iI 1), (iI 1), (iI 0)]) :: (of2, Own.ArrC Z .int [(.int f0), (.int f1), (.int p3), (iI 0)]) :: (ol3, Own.ArrC Z .int [(iI 0), (iI 0), (iI 0), (iI 0)]) :: fr) := O19.pick 8 rfl
  have O21 : Own.Owns n0 h14 ((ol3, Own.ArrC Z .int [(iI 0), (iI 0), (iI 0), (iI 0)]) :: (ok, Own.ArrC Z .long [(jJ 0), (jJ 0), (jJ 0), (jJ 0)]) :: (op, OPo Z (.ref ra) (.ref rb) (iI (-1)) (iI (-1)) (.ref rt) (iI 3) (iI 0)) :: (ra, Own.ArrC Z .long [(jJ 0), (jJ 1), (jJ 2), (jJ 0), (jJ 0), (jJ 0), (jJ 0), (jJ 0), (jJ 0), (jJ 0), (jJ 0), (jJ 0), (jJ 0), (jJ 0), (jJ 0), (jJ 0)]) :: (rb, Own.ArrC Z .long [(jJ 0), (jJ 1), (jJ 2), (jJ 0), (jJ 0), (jJ 0), (jJ 0), (jJ 0), (jJ 0), (jJ 0), (jJ 0), (jJ 0), (jJ 0), (jJ 0), (jJ 0), (jJ 0)]) :: (rt, Own.ArrC Z (.object "java/math/BigDecimal") [.null, .null, .null, .null, .null, .null, .null, .null, .null, .null, .null, .null, .null, .null, .null, .null]) :: (o0, WEo Z (.ref op) (.ref oc1) (.ref of2) (.ref ol3) (.ref ok) (iI 0) (iI 3) (iI 0) (iI 0)) :: (oc1, Own.ArrC Z .int [(iI 1), (iI 1), (iI 1), (iI 0)]) :: (of2, Own.ArrC Z .int [(.int f0), (.int f1), (.int p3), (iI 0)]) :: fr) := O20.pick 8 rfl
  have O22 : Own.Owns n0 h14 ((of2, Own.ArrC Z .int [(.int f0), (.int f1), (.int p3), (iI 0)]) :: (ol3, Own.ArrC Z .int [(iI 0), (iI 0), (iI 0), (iI 0)]) :: (ok, Own.ArrC Z .long [(jJ 0), (jJ 0), (jJ 0), (jJ 0)]) :: (op, OPo Z (.ref ra) (.ref rb) (iI (-1)) (iI (-1)) (.ref rt) (iI 3) (iI 0)) :: (ra, Own.ArrC Z .long [(jJ 0), (jJ 1), (jJ 2), (jJ 0), (jJ 0), (jJ 0), (jJ 0), (jJ 0), (jJ 0), (jJ 0), (jJ 0), (jJ 0), (jJ 0), (jJ 0), (jJ 0), (jJ 0)]) :: (rb, Own.ArrC Z .long [(jJ 0), (jJ 1), (jJ 2), (jJ 0), (jJ 0), (jJ 0), (jJ 0), (jJ 0), (jJ 0), (jJ 0), (jJ 0), (jJ 0), (jJ 0), (jJ 0), (jJ 0), (jJ 0)]) :: (rt, Own.ArrC Z (.object "java/math/BigDecimal") [.null, .null, .null, .null, .null, .null, .null, .null, .null, .null, .null, .null, .null, .null, .null, .null]) :: (o0, WEo Z (.ref op) (.ref oc1) (.ref of2) (.ref ol3) (.ref ok) (iI 0) (iI 3) (iI 0) (iI 0)) :: (oc1, Own.ArrC Z .int [(iI 1), (iI 1), (iI 1), (iI 0)]) :: fr) := O21.pick 8 rfl
  have O23 : Own.Owns n0 h14 ((oc1, Own.ArrC Z .int [(iI 1), (iI 1), (iI 1), (iI 0)]) :: (of2, Own.ArrC Z .int [(.int f0), (.int f1), (.int p3), (iI 0)]) :: (ol3, Own.ArrC Z .int [(iI 0), (iI 0), (iI 0), (iI 0)]) :: (ok, Own.ArrC Z .long [(jJ 0), (jJ 0), (jJ 0), (jJ 0)]) :: (op, OPo Z (.ref ra) (.ref rb) (iI (-1)) (iI (-1)) (.ref rt) (iI 3) (iI 0)) :: (ra, Own.ArrC Z .long [(jJ 0), (jJ 1), (jJ 2), (jJ 0), (jJ 0), (jJ 0), (jJ 0), (jJ 0), (jJ 0), (jJ 0), (jJ 0), (jJ 0), (jJ 0), (jJ 0), (jJ 0), (jJ 0)]) :: (rb, Own.ArrC Z .long [(jJ 0), (jJ 1), (jJ 2), (jJ 0), (jJ 0), (jJ 0), (jJ 0), (jJ 0), (jJ 0), (jJ 0), (jJ 0), (jJ 0), (jJ 0), (jJ 0), (jJ 0), (jJ 0)]) :: (rt, Own.ArrC Z (.object "java/math/BigDecimal") [.null, .null, .null, .null, .null, .null, .null, .null, .null, .null, .null, .null, .null, .null, .null, .null]) :: (o0, WEo Z (.ref op) (.ref oc1) (.ref of2) (.ref ol3) (.ref ok) (iI 0) (iI 3) (iI 0) (iI 0)) :: fr) := O22.pick 8 rfl
  have O24 : Own.Owns n0 h14 ((o0, WEo Z (.ref op) (.ref oc1) (.ref of2) (.ref ol3) (.ref ok) (iI 0) (iI 3) (iI 0) (iI 0)) :: (oc1, Own.ArrC Z .int [(iI 1), (iI 1), (iI 1), (iI 0)]) :: (of2, Own.ArrC Z .int [(.int f0), (.int f1), (.int p3), (iI 0)]) :: (ol3, Own.ArrC Z .int [(iI 0), (iI 0), (iI 0), (iI 0)]) :: (ok, Own.ArrC Z .long [(jJ 0), (jJ 0), (jJ 0), (jJ 0)]) :: (op, OPo Z (.ref ra) (.ref rb) (iI (-1)) (iI (-1)) (.ref rt) (iI 3) (iI 0)) :: (ra, Own.ArrC Z .long [(jJ 0), (jJ 1), (jJ 2), (jJ 0), (jJ 0), (jJ 0), (jJ 0), (jJ 0), (jJ 0), (jJ 0), (jJ 0), (jJ 0), (jJ 0), (jJ 0), (jJ 0), (jJ 0)]) :: (rb, Own.ArrC Z .long [(jJ 0), (jJ 1), (jJ 2), (jJ 0), (jJ 0), (jJ 0), (jJ 0), (jJ 0), (jJ 0), (jJ 0), (jJ 0), (jJ 0), (jJ 0), (jJ 0), (jJ 0), (jJ 0)]) :: (rt, Own.ArrC Z (.object "java/math/BigDecimal") [.null, .null, .null, .null, .null, .null, .null, .null, .null, .null, .null, .null, .null, .null, .null, .null]) :: fr) := O23.pick 8 rfl
  exact Own.retV hx hret hlk (hb hby d5_15) (by decide) (by decide) ⟨oc1, of2, ol3, rfl, O24⟩

theorem ef6_3 (m : MethodId) (x0 : Addr) (x1 : Int32) : entryFrame m #[(.ref x0), (.int x1)] 2 = mkF m 0 #[.val (.ref x0), .val (.int x1)] [] := by first | (simp [entryFrame, mkF, argsToLocals, Value.category]; done) | rfl
set_option maxRecDepth 65536 in
set_option maxHeartbeats 40000000 in
theorem rm6_3 (l : Launch) (Z : State) (a0 : Array Value) (hw : ∀ d ∈ tables_1, d.before a0 Z = true) (o0 : Addr) (p1 : Int32) (h0 : Heap) (n0 : Nat) (op oc of' ol ok : Addr) (f0 f1 f2 : Int32) (fr : List (Addr × (Cell → Prop))) (O0 : Own.Owns n0 h0 ((o0, WEo Z (.ref op) (.ref oc) (.ref of') (.ref ol) (.ref ok) (iI 0) (iI 3) (iI 0) (iI 0)) :: (oc, Own.ArrC Z .int [(iI 1), (iI 1), (iI 1), (iI 0)]) :: (of', Own.ArrC Z .int [(.int f0), (.int f1), (.int f2), (iI 0)]) :: (ol, Own.ArrC Z .int [(iI 0), (iI 0), (iI 0), (iI 0)]) :: fr))  : Own.Does l (⟨"com/example/tracewarden/tracewarden/monitor/WindowEntries", "addStretch", "(I)V"⟩ : MethodName) prog_144_method_16_code 2 none [] ({ frames := 0, cells := 0, slots := 0, locals := 0 } : Room) Z #[(.ref o0), (.int p1)] h0 n0 (fun v h => ∃ oc2 of2 ol2, v = none ∧ Own.Owns n0 h ((o0, WEo Z (.ref op) (.ref oc2) (.ref of2) (.ref ol2) (.ref ok) (iI 0) (iI 4) (iI 0) (iI 0)) :: (oc2, Own.ArrC Z .int [(iI 1), (iI 1), (iI 1), (iI 1)]) :: (of2, Own.ArrC Z .int [(.int f0), (.int f1), (.int f2), (.int p1)]) :: (ol2, Own.ArrC Z .int [(iI 0), (iI 0), (iI 0), (iI 0)]) :: fr)) := by
  refine Own.doesOf pn7 ?_
  intro p e s m below meth c hx hby hml hret hlk hown hnm hZ
  refine Own.Goes.cast (ef6_3 m o0 p1) ?_
  refine Own.aloadN hx (.ref o0) (hb hby d6_0) rfl rfl rfl ?_
  refine Own.getfield hx hZ hown O0 0 6 rfl rfl (hw _ (wm 55 rfl)) (hb hby d6_1) rfl ?_
  refine Own.aloadN hx (.ref o0) (hb hby d6_4) rfl rfl rfl ?_
  refine Own.getfield hx hZ hown O0 0 1 rfl rfl (hw _ (wm 36 rfl)) (hb hby d6_5) rfl ?_
  refine Own.arrlen hx hZ O0 1 rfl (4 : Int32) rfl (hb hby d6_8) rfl ?_
  have hc1 : ¬ ((3 : Int32) = (4 : Int32)) := by decide
  refine Own.icmpFn hx (Own.q_ne (3 : Int32) (4 : Int32)) (hb hby d6_9) (pcN := 12) rfl (by decide) (pcT := 63) rfl (fun _ => ?_) (fun q => absurd q hc1)
  refine Own.aloadN hx (.ref o0) (hb hby d6_63) rfl rfl rfl ?_
  refine Own.getfield hx hZ hown O0 0 1 rfl rfl (hw _ (wm 36 rfl)) (hb hby d6_64) rfl ?_
  refine Own.aloadN hx (.ref o0) (hb hby d6_67) rfl rfl rfl ?_
  refine Own.getfield hx hZ hown O0 0 6 rfl rfl (hw _ (wm 55 rfl)) (hb hby d6_68) rfl ?_
  refine Own.iconst hx (1 : Int32) (hb hby d6_71) rfl (by decide) ?_
  refine Own.iastore hx hZ O0 1 3 rfl (by decide) (by exact (show 3 < 4 by decide)) ((o0, WEo Z (.ref op) (.ref oc) (.ref of') (.ref ol) (.ref ok) (iI 0) (iI 3) (iI 0) (iI 0)) :: (oc, Own.ArrC Z .int [(iI 1), (iI 1), (iI 1), (iI 1)]) :: (of', Own.ArrC Z .int [(.int f0), (.int f1), (.int f2), (iI 0)]) :: (ol, Own.ArrC Z .int [(iI 0), (iI 0), (iI 0), (iI 0)]) :: fr) rfl (hb hby d6_72) rfl ?_
  intro h3 O4
  refine Own.aloadN hx (.ref o0) (hb hby d6_73) rfl rfl rfl ?_
  refine Own.getfield hx hZ hown O4 0 2 rfl rfl (hw _ (wm 38 rfl)) (hb hby d6_74) rfl ?_
  refine Own.aloadN hx (.ref o0) (hb hby d6_77) rfl rfl rfl ?_
  refine Own.dup hx (hb hby d6_78) rfl rfl ?_
  refine Own.getfield hx hZ hown O4 0 6 rfl rfl (hw _ (wm 55 rfl)) (hb hby d6_79) rfl ?_
  refine Own.dupX1 hx (hb hby d6_82) rfl rfl rfl ?_
  refine Own.iconst hx (1 : Int32) (hb hby d6_83) rfl (by decide) ?_
  refine Own.iadd hx (hb hby d6_84) rfl ?_
  refine Own.vI (4 : Int32) (by decide) ?_
  refine Own.putfield hx hZ hown O4 0 6 rfl rfl (hw _ (wm 55 rfl)) (Or.inl (hw _ (wm 56 rfl))) (hw _ (wm 2 rfl)) (ty := .int) (by decide) rfl rfl ((o0, WEo Z (.ref op) (.ref oc) (.ref of') (.ref ol) (.ref ok) (iI 0) (iI 4) (iI 0) (iI 0)) :: (oc, Own.ArrC Z .int [(iI 1), (iI 1), (iI 1), (iI 1)]) :: (of', Own.ArrC Z .int [(.int f0), (.int f1), (.int f2), (iI 0)]) :: (ol, Own.ArrC Z .int [(iI 0), (iI 0), (iI 0), (iI 0)]) :: fr) rfl (hb hby d6_85) rfl ?_
  intro h5 O6
  refine Own.iloadN hx p1 (hb hby d6_88) rfl rfl ?_
  refine Own.iastore hx hZ O6 2 3 rfl (by decide) (by exact (show 3 < 4 by decide)) ((o0, WEo Z (.ref op) (.ref oc) (.ref of') (.ref ol) (.ref ok) (iI 0) (iI 4) (iI 0) (iI 0)) :: (oc, Own.ArrC Z .int [(iI 1), (iI 1), (iI 1), (iI 1)]) :: (of', Own.ArrC Z .int [(.int f0), (.int f1), (.int f2), (.int p1)]) :: (ol, Own.ArrC Z .int [(iI 0), (iI 0), (iI 0), (iI 0)]) :: fr) rfl (hb hby d6_89) rfl ?_
  intro h7 O8
  have O9 : Own.Owns n0 h7 ((ol, Own.ArrC Z .int [(iI 0), (iI 0), (iI 0), (iI 0)]) :: (o0, WEo Z (.ref op) (.ref oc) (.ref of') (.ref ol) (.ref ok) (iI 0) (iI 4) (iI 0) (iI 0)) :: (oc, Own.ArrC Z .int [(iI 1), (iI 1), (iI 1), (iI 1)]) :: (of', Own.ArrC Z .int [(.int f0), (.int f1), (.int f2), (.int p1)]) :: fr) := O8.pick 3 rfl
  have O10 : Own.Owns n0 h7 ((of', Own.ArrC Z .int [(.int f0), (.int f1), (.int f2), (.int p1)]) :: (ol, Own.ArrC Z .int [(iI 0), (iI 0), (iI 0), (iI 0)]) :: (o0, WEo Z (.ref op) (.ref oc) (.ref of') (.ref ol) (.ref ok) (iI 0) (iI 4) (iI 0) (iI 0)) :: (oc, Own.ArrC Z .int [(iI 1), (iI 1), (iI 1), (iI 1)]) :: fr) := O9.pick 3 rfl
  have O11 : Own.Owns n0 h7 ((oc, Own.ArrC Z .int [(iI 1), (iI 1), (iI 1), (iI 1)]) :: (of', Own.ArrC Z .int [(.int f0), (.int f1), (.int f2), (.int p1)]) :: (ol, Own.ArrC Z .int [(iI 0), (iI 0), (iI 0), (iI 0)]) :: (o0, WEo Z (.ref op) (.ref oc) (.ref of') (.ref ol) (.ref ok) (iI 0) (iI 4) (iI 0) (iI 0)) :: fr) := O10.pick 3 rfl
  have O12 : Own.Owns n0 h7 ((o0, WEo Z (.ref op) (.ref oc) (.ref of') (.ref ol) (.ref ok) (iI 0) (iI 4) (iI 0) (iI 0)) :: (oc, Own.ArrC Z .int [(iI 1), (iI 1), (iI 1), (iI 1)]) :: (of', Own.ArrC Z .int [(.int f0), (.int f1), (.int f2), (.int p1)]) :: (ol, Own.ArrC Z .int [(iI 0), (iI 0), (iI 0), (iI 0)]) :: fr) := O11.pick 3 rfl
  exact Own.retV hx hret hlk (hb hby d6_90) (by decide) (by decide) ⟨oc, of', ol, rfl, O12⟩

theorem ef5_3 (m : MethodId) (x0 : Addr) (x1 : Int64) (x3 : Int32) : entryFrame m #[(.ref x0), (.long x1), .null, (.int x3)] 5 = mkF m 0 #[.val (.ref x0), .val (.long x1), .second, .val .null, .val (.int x3)] [] := by first | (simp [entryFrame, mkF, argsToLocals, Value.category]; done) | rfl
set_option maxRecDepth 65536 in
set_option maxHeartbeats 40000000 in
theorem rm5_3 (l : Launch) (Z : State) (a0 : Array Value) (hw : ∀ d ∈ tables_1, d.before a0 Z = true) (o0 : Addr) (p3 : Int32) (h0 : Heap) (n0 : Nat) (oc of' ol ok op ra rb rt : Addr) (f0 f1 f2 : Int32) (fr : List (Addr × (Cell → Prop))) (O0 : Own.Owns n0 h0 ((o0, WEo Z (.ref op) (.ref oc) (.ref of') (.ref ol) (.ref ok) (iI 0) (iI 3) (iI 0) (iI 0)) :: (oc, Own.ArrC Z .int [(iI 1), (iI 1), (iI 1), (iI 0)]) :: (of', Own.ArrC Z .int [(.int f0), (.int f1), (.int f2), (iI 0)]) :: (ol, Own.ArrC Z .int [(iI 0), (iI 0), (iI 0), (iI 0)]) :: (ok, Own.ArrC Z .long [(jJ 0), (jJ 0), (jJ 0), (jJ 0)]) :: (op, OPo Z (.ref ra) (.ref rb) (iI (-1)) (iI (-1)) (.ref rt) (iI 3) (iI 0)) :: (ra, Own.ArrC Z .long [(jJ 0), (jJ 1), (jJ 2), (jJ 0), (jJ 0), (jJ 0), (jJ 0), (jJ 0), (jJ 0), (jJ 0), (jJ 0), (jJ 0), (jJ 0), (jJ 0), (jJ 0), (jJ 0)]) :: (rb, Own.ArrC Z .long [(jJ 0), (jJ 1), (jJ 2), (jJ 0), (jJ 0), (jJ 0), (jJ 0), (jJ 0), (jJ 0), (jJ 0), (jJ 0), (jJ 0), (jJ 0), (jJ 0), (jJ 0), (jJ 0)]) :: (rt, Own.ArrC Z (.object "java/math/BigDecimal") [.null, .null, .null, .null, .null, .null, .null, .null, .null, .null, .null, .null, .null, .null, .null, .null]) :: fr))  : Own.Does l (⟨"com/example/tracewarden/tracewarden/monitor/WindowEntries", "add", "(JLjava/math/BigDecimal;I)V"⟩ : MethodName) prog_144_method_14_code 5 none [] ({ frames := 2, cells := 0, slots := 0, locals := 30 } : Room) Z #[(.ref o0), (.long (3 : Int64)), .null, (.int p3)] h0 n0 (fun v h => ∃ oc2 of2 ol2, v = none ∧ Own.Owns n0 h ((o0, WEo Z (.ref op) (.ref oc2) (.ref of2) (.ref ol2) (.ref ok) (iI 0) (iI 4) (iI 0) (iI 0)) :: (oc2, Own.ArrC Z .int [(iI 1), (iI 1), (iI 1), (iI 1)]) :: (of2, Own.ArrC Z .int [(.int f0), (.int f1), (.int f2), (.int p3)]) :: (ol2, Own.ArrC Z .int [(iI 0), (iI 0), (iI 0), (iI 0)]) :: (ok, Own.ArrC Z .long [(jJ 0), (jJ 0), (jJ 0), (jJ 0)]) :: (op, OPo Z (.ref ra) (.ref rb) (iI (-1)) (iI (-1)) (.ref rt) (iI 4) (iI 0)) :: (ra, Own.ArrC Z .long [(jJ 0), (jJ 1), (jJ 2), (jJ 3), (jJ 0), (jJ 0), (jJ 0), (jJ 0), (jJ 0), (jJ 0), (jJ 0), (jJ 0), (jJ 0), (jJ 0), (jJ 0), (jJ 0)]) :: (rb, Own.ArrC Z .long [(jJ 0), (jJ 1), (jJ 2), (jJ 3), (jJ 0), (jJ 0), (jJ 0), (jJ 0), (jJ 0), (jJ 0), (jJ 0), (jJ 0), (jJ 0), (jJ 0), (jJ 0), (jJ 0)]) :: (rt, Own.ArrC Z (.object "java/math/BigDecimal") [.null, .null, .null, .null, .null, .null, .null, .null, .null, .null, .null, .null, .null, .null, .null, .null]) :: fr)) := by
  refine Own.doesOf pn8 ?_
  intro p e s m below meth c hx hby hml hret hlk hown hnm hZ
  refine Own.Goes.cast (ef5_3 m o0 (3 : Int64) p3) ?_
  refine Own.aloadN hx (.ref o0) (hb hby d5_0) rfl rfl rfl ?_
  refine Own.iload hx p3 (hb hby d5_1) rfl rfl ?_
  have O4 : Own.Owns n0 h0 ((ol, Own.ArrC Z .int [(iI 0), (iI 0), (iI 0), (iI 0)]) :: (o0, WEo Z (.ref op) (.ref oc) (.ref of') (.ref ol) (.ref ok) (iI 0) (iI 3) (iI 0) (iI 0)) :: (oc, Own.ArrC Z .int [(iI 1), (iI 1), (iI 1), (iI 0)]) :: (of', Own.ArrC Z .int [(.int f0), (.int f1), (.int f2), (iI 0)]) :: (ok, Own.ArrC Z .long [(jJ 0), (jJ 0), (jJ 0), (jJ 0)]) :: (op, OPo Z (.ref ra) (.ref rb) (iI (-1)) (iI (-1)) (.ref rt) (iI 3) (iI 0)) :: (ra, Own.ArrC Z .long [(jJ 0), (jJ 1), (jJ 2), (jJ 0), (jJ 0), (jJ 0), (jJ 0), (jJ 0), (jJ 0), (jJ 0), (jJ 0), (jJ 0), (jJ 0), (jJ 0), (jJ 0), (jJ 0)]) :: (rb, Own.ArrC Z .long [(jJ 0), (jJ 1), (jJ 2), (jJ 0), (jJ 0), (jJ 0), (jJ 0), (jJ 0), (jJ 0), (jJ 0), (jJ 0), (jJ 0), (jJ 0), (jJ 0), (jJ 0), (jJ 0)]) :: (rt, Own.ArrC Z (.object "java/math/BigDecimal") [.null, .null, .null, .null, .null, .null, .null, .null, .null, .null, .null, .null, .null, .null, .null, .null]) :: fr) := O0.pick 3 rfl
  have O5 : Own.Owns n0 h0 ((of', Own.ArrC Z .int [(.int f0), (.int f1), (.int f2), (iI 0)]) :: (ol, Own.ArrC Z .int [(iI 0), (iI 0), (iI 0), (iI 0)]) :: (o0, WEo Z (.ref op) (.ref oc) (.ref of') (.ref ol) (.ref ok) (iI 0) (iI 3) (iI 0) (iI 0)) :: (oc, Own.ArrC Z .int [(iI 1), (iI 1), (iI 1), (iI 0)]) :: (ok, Own.ArrC Z .long [(jJ 0), (jJ 0), (jJ 0), (jJ 0)]) :: (op, OPo Z (.ref ra) (.ref rb) (iI (-1)) (iI (-1)) (.ref rt) (iI 3) (iI 0)) :: (ra, Own.ArrC Z .long [(jJ 0), (jJ 1), (jJ 2), (jJ 0), (jJ 0), (jJ 0), (jJ 0), (jJ 0), (jJ 0), (jJ 0), (jJ 0), (jJ 0), (jJ 0), (jJ 0), (jJ 0), (jJ 0)]) :: (rb, Own.ArrC Z .long [(jJ 0), (jJ 1), (jJ 2), (jJ 0), (jJ 0), (jJ 0), (jJ 0), (jJ 0), (jJ 0), (jJ 0), (jJ 0), (jJ 0), (jJ 0), (jJ 0), (jJ 0), (jJ 0)]) :: (rt, Own.ArrC Z (.object "java/math/BigDecimal") [.null, .null, .null, .null, .null, .null, .null, .null, .null, .null, .null, .null, .null, .null, .null, .null]) :: fr) := O4.pick 3 rfl
  have O6 : Own.Owns n0 h0 ((oc, Own.ArrC Z .int [(iI 1), (iI 1), (iI 1), (iI 0)]) :: (of', Own.ArrC Z .int [(.int f0), (.int f1), (.int f2), (iI 0)]) :: (ol, Own.ArrC Z .int [(iI 0), (iI 0), (iI 0), (iI 0)]) :: (o0, WEo Z (.ref op) (.ref oc) (.ref of') (.ref ol) (.ref ok) (iI 0) (iI 3) (iI 0) (iI 0)) :: (ok, Own.ArrC Z .long [(jJ 0), (jJ 0), (jJ 0), (jJ 0)]) :: (op, OPo Z (.ref ra) (.ref rb) (iI (-1)) (iI (-1)) (.ref rt) (iI 3) (iI 0)) :: (ra, Own.ArrC Z .long [(jJ 0), (jJ 1), (jJ 2), (jJ 0), (jJ 0), (jJ 0), (jJ 0), (jJ 0), (jJ 0), (jJ 0), (jJ 0), (jJ 0), (jJ 0), (jJ 0), (jJ 0), (jJ 0)]) :: (rb, Own.ArrC Z .long [(jJ 0), (jJ 1), (jJ 2), (jJ 0), (jJ 0), (jJ 0), (jJ 0), (jJ 0), (jJ 0), (jJ 0), (jJ 0), (jJ 0), (jJ 0), (jJ 0), (jJ 0), (jJ 0)]) :: (rt, Own.ArrC Z (.object "java/math/BigDecimal") [.null, .null, .null, .null, .null, .null, .null, .null, .null, .null, .null, .null, .null, .null, .null, .null]) :: fr) := O5.pick 3 rfl
  have O7 : Own.Owns n0 h0 ((o0, WEo Z (.ref op) (.ref oc) (.ref of') (.ref ol) (.ref ok) (iI 0) (iI 3) (iI 0) (iI 0)) :: (oc, Own.ArrC Z .int [(iI 1), (iI 1), (iI 1), (iI 0)]) :: (of', Own.ArrC Z .int [(.int f0), (.int f1), (.int f2), (iI 0)]) :: (ol, Own.ArrC Z .int [(iI 0), (iI 0), (iI 0), (iI 0)]) :: (ok, Own.ArrC Z .long [(jJ 0), (jJ 0), (jJ 0), (jJ 0)]) :: (op, OPo Z (.ref ra) (.ref rb) (iI (-1)) (iI (-1)) (.ref rt) (iI 3) (iI 0)) :: (ra, Own.ArrC Z .long [(jJ 0), (jJ 1), (jJ 2), (jJ 0), (jJ 0), (jJ 0), (jJ 0), (jJ 0), (jJ 0), (jJ 0), (jJ 0), (jJ 0), (jJ 0), (jJ 0), (jJ 0), (jJ 0)]) :: (rb, Own.ArrC Z .long [(jJ 0), (jJ 1), (jJ 2), (jJ 0), (jJ 0), (jJ 0), (jJ 0), (jJ 0), (jJ 0), (jJ 0), (jJ 0), (jJ 0), (jJ 0), (jJ 0), (jJ 0), (jJ 0)]) :: (rt, Own.ArrC Z (.object "java/math/BigDecimal") [.null, .null, .null, .null, .null, .null, .null, .null, .null, .null, .null, .null, .null, .null, .null, .null]) :: fr) := O6.pick 3 rfl
  refine Own.callP hx hZ hown (O7.exa (i := 0) rfl) (hw _ (wm 51 rfl)) (hw _ (wm 52 rfl)) (hw _ (wm 2 rfl)) (hw _ (wm 53 rfl)) (hw _ (wm 3 rfl)) (hw _ (wm 54 rfl)) (by decide) pd3 (argsL := [(.int p3)]) (rest := []) rfl (W := 0) (Nat.le_of_eq rfl) (rm := ({ frames := 0, cells := 0, slots := 0, locals := 0 } : Room)) (by decide) (by decide) (by decide) (by decide) (k' := 0) (n' := 0) rfl rfl (by rw [hml]; rfl) [(.int p3), (.ref o0)] rfl (hb hby d5_3) (pc' := 6) rfl (rm6_3 l Z a0 hw o0 p3 h0 n0 op oc of' ol ok f0 f1 f2 ((ok, Own.ArrC Z .long [(jJ 0), (jJ 0), (jJ 0), (jJ 0)]) :: (op, OPo Z (.ref ra) (.ref rb) (iI (-1)) (iI (-1)) (.ref rt) (iI 3) (iI 0)) :: (ra, Own.ArrC Z .long [(jJ 0), (jJ 1), (jJ 2), (jJ 0), (jJ 0), (jJ 0), (jJ 0), (jJ 0), (jJ 0), (jJ 0), (jJ 0), (jJ 0), (jJ 0), (jJ 0), (jJ 0), (jJ 0)]) :: (rb, Own.ArrC Z .long [(jJ 0), (jJ 1), (jJ 2), (jJ 0), (jJ 0), (jJ 0), (jJ 0), (jJ 0), (jJ 0), (jJ 0), (jJ 0), (jJ 0), (jJ 0), (jJ 0), (jJ 0), (jJ 0)]) :: (rt, Own.ArrC Z (.object "java/math/BigDecimal") [.null, .null, .null, .null, .null, .null, .null, .null, .null, .null, .null, .null, .null, .null, .null, .null]) :: fr) O7) ?_
  rintro _ h8 ⟨oc1, of2, ol3, rfl, O9⟩
  show Own.Goes _ _ _ _ _ _ _ _ _ _ _ _ _ _ _ _ _ (mkF m 6 #[.val (.ref o0), .val (.long (3 : Int64)), .second, .val .null, .val (.int p3)] [])
  refine Own.aloadN hx (.ref o0) (hb hby d5_6) rfl rfl rfl ?_
  refine Own.getfield hx hZ hown O9 0 0 rfl rfl (hw _ (wm 33 rfl)) (hb hby d5_7) rfl ?_
  refine Own.lloadN hx (3 : Int64) (hb hby d5_10) rfl rfl ?_
  refine Own.aloadN hx .null (hb hby d5_11) rfl rfl rfl ?_
  have O10 : Own.Owns n0 h8 ((rt, Own.ArrC Z (.object "java/math/BigDecimal") [.null, .null, .null, .null, .null, .null, .null, .null, .null, .null, .null, .null, .null, .null, .null, .null]) :: (o0, WEo Z (.ref op) (.ref oc1) (.ref of2) (.ref ol3) (.ref ok) (iI 0) (iI 4) (iI 0) (iI 0)) :: (oc1, Own.ArrC Z .int [(iI 1), (iI 1), (iI 1), (iI 1)]) :: (of2, Own.ArrC Z .int [(.int f0), (.int f1), (.int f2), (.int p3)]) :: (ol3, Own.ArrC Z .int [(iI 0), (iI 0), (iI 0), (iI 0)]) :: (ok, Own.ArrC Z .long [(jJ 0), (jJ 0), (jJ 0), (jJ 0)]) :: (op, OPo Z (.ref ra) (.ref rb) (iI (-1)) (iI (-1)) (.ref rt) (iI 3) (iI 0)) :: (ra, Own.ArrC Z .long [(jJ 0), (jJ 1), (jJ 2), (jJ 0), (jJ 0), (jJ 0), (jJ 0), (jJ 0), (jJ 0), (jJ 0), (jJ 0), (jJ 0), (jJ 0), (jJ 0), (jJ 0), (jJ 0)]) :: (rb, Own.ArrC Z .long [(jJ 0), (jJ 1), (jJ 2), (jJ 0), (jJ 0), (jJ 0), (jJ 0), (jJ 0), (jJ 0), (jJ 0), (jJ 0), (jJ 0), (jJ 0), (jJ 0), (jJ 0), (jJ 0)]) :: fr) := O9.pick 8 rfl
  have O11 : Own.Owns n0 h8 ((rb, Own.ArrC Z .long [(jJ 0), (jJ 1), (jJ 2), (jJ 0), (jJ 0), (jJ 0), (jJ 0), (jJ 0), (jJ 0), (jJ 0), (jJ 0), (jJ 0), (jJ 0), (jJ 0), (jJ 0), (jJ 0)]) :: (rt, Own.ArrC Z (.object "java/math/BigDecimal") [.null, .null, .null, .null, .null, .null, .null, .null, .null, .null, .null, .null, .null, .null, .null, .null]) :: (o0, WEo Z (.ref op) (.ref oc1) (.ref of2) (.ref ol3) (.ref ok) (iI 0) (iI 4) (iI 0) (iI 0)) :: (oc1, Own.ArrC Z .int [(iI 1), (iI 1), (iI 1), (iI 1)]) :: (of2, Own.ArrC Z .int [(.int f0), (.int f1), (.int f2), (.int p3)]) :: (ol3, Own.ArrC Z .int [(iI 0), (iI 0), (iI 0), (iI 0)]) :: (ok, Own.ArrC Z .long [(jJ 0), (jJ 0), (jJ 0), (jJ 0)]) :: (op, OPo Z (.ref ra) (.ref rb) (iI (-1)) (iI (-1)) (.ref rt) (iI 3) (iI 0)) :: (ra, Own.ArrC Z .long [(jJ 0), (jJ 1), (jJ 2), (jJ 0), (jJ 0), (jJ 0), (jJ 0), (jJ 0), (jJ 0), (jJ 0), (jJ 0), (jJ 0), (jJ 0), (jJ 0), (jJ 0), (jJ 0)]) :: fr) := O10.pick 8 rfl
  have O12 : Own.Owns n0 h8 ((ra, Own.ArrC Z .long [(jJ 0), (jJ 1), (jJ 2), (jJ 0), (jJ 0), (jJ 0), (jJ 0), (jJ 0), (jJ 0), (jJ 0), (jJ 0), (jJ 0), (jJ 0), (jJ 0), (jJ 0), (jJ 0)]) :: (rb, Own.ArrC Z .long [(jJ 0), (jJ 1), (jJ 2), (jJ 0), (jJ 0), (jJ 0), (jJ 0), (jJ 0), (jJ 0), (jJ 0), (jJ 0), (jJ 0), (jJ 0), (jJ 0), (jJ 0), (jJ 0)]) :: (rt, Own.ArrC Z (.object "java/math/BigDecimal") [.null, .null, .null, .null, .null, .null, .null, .null, .null, .null, .null, .null, .null, .null, .null, .null]) :: (o0, WEo Z (.ref op) (.ref oc1) (.ref of2) (.ref ol3) (.ref ok) (iI 0) (iI 4) (iI 0) (iI 0)) :: (oc1, Own.ArrC Z .int [(iI 1), (iI 1), (iI 1), (iI 1)]) :: (of2, Own.ArrC Z .int [(.int f0), (.int f1), (.int f2), (.int p3)]) :: (ol3, Own.ArrC Z .int [(iI 0), (iI 0), (iI 0), (iI 0)]) :: (ok, Own.ArrC Z .long [(jJ 0), (jJ 0), (jJ 0), (jJ 0)]) :: (op, OPo Z (.ref ra) (.ref rb) (iI (-1)) (iI (-1)) (.ref rt) (iI 3) (iI 0)) :: fr) := O11.pick 8 rfl
  have O13 : Own.Owns n0 h8 ((op, OPo Z (.ref ra) (.ref rb) (iI (-1)) (iI (-1)) (.ref rt) (iI 3) (iI 0)) :: (ra, Own.ArrC Z .long [(jJ 0), (jJ 1), (jJ 2), (jJ 0), (jJ 0), (jJ 0), (jJ 0), (jJ 0), (jJ 0), (jJ 0), (jJ 0), (jJ 0), (jJ 0), (jJ 0), (jJ 0), (jJ 0)]) :: (rb, Own.ArrC Z .long [(jJ 0), (jJ 1), (jJ 2), (jJ 0), (jJ 0), (jJ 0), (jJ 0), (jJ 0), (jJ 0), (jJ 0), (jJ 0), (jJ 0), (jJ 0), (jJ 0), (jJ 0), (jJ 0)]) :: (rt, Own.ArrC Z (.object "java/math/BigDecimal") [.null, .null, .null, .null, .null, .null, .null, .null, .null, .null, .null, .null, .null, .null, .null, .null]) :: (o0, WEo Z (.ref op) (.ref oc1) (.ref of2) (.ref ol3) (.ref ok) (iI 0) (iI 4) (iI 0) (iI 0)) :: (oc1, Own.ArrC Z .int [(iI 1), (iI 1), (iI 1), (iI 1)]) :: (of2, Own.ArrC Z .int [(.int f0), (.int f1), (.int f2), (.int p3)]) :: (ol3, Own.ArrC Z .int [(iI 0), (iI 0), (iI 0), (iI 0)]) :: (ok, Own.ArrC Z .long [(jJ 0), (jJ 0), (jJ 0), (jJ 0)]) :: fr) := O12.pick 8 rfl
  refine Own.callV hx hZ hown (O13.exa (i := 0) rfl) (hw _ (wm 57 rfl)) (hw _ (wm 58 rfl)) (hw _ (wm 60 rfl)) (hw _ (wm 59 rfl)) (hw _ (wm 12 rfl)) (hw _ (wm 61 rfl)) (by decide) pd4 (argsL := [(.long (3 : Int64)), .null]) (rest := []) rfl (W := 0) (Nat.le_of_eq rfl) (rm := ({ frames := 1, cells := 0, slots := 0, locals := 12 } : Room)) (by decide) (by decide) (by decide) (by decide) (k' := 0) (n' := 0) rfl rfl (by rw [hml]; rfl) [.null, (.long (3 : Int64)), (.ref op)] rfl (hb hby d5_12) (pc' := 15) rfl (rm7_3 l Z a0 hw op h8 n0 ra rb rt ((o0, WEo Z (.ref op) (.ref oc1) (.ref of2) (.ref ol3) (.ref ok) (iI 0) (iI 4) (iI 0) (iI 0)) :: (oc1, Own.ArrC Z .int [(iI 1), (iI 1), (iI 1), (iI 1)]) :: (of2, Own.ArrC Z .int [(.int f0), (.int f1), (.int f2), (.int p3)]) :: (ol3, Own.ArrC Z .int [(iI 0), (iI 0), (iI 0), (iI 0)]) :: (ok, Own.ArrC Z .long [(jJ 0), (jJ 0), (jJ 0), (jJ 0)]) :: fr) O13) ?_
  rintro _ h14 ⟨rfl, O15⟩
  show Own.Goes _ _ _ _ _ _ _ _ _ _ _ _ _ _ _ _ _ (mkF m 15 #[.val (.ref o0), .val (.long (3 : Int64)), .second, .val .null, .val (.int p3)] [])
  have O16 : Own.Owns n0 h14 ((rt, Own.ArrC Z (.object "java/math/BigDecimal") [.null, .null, .null, .null, .null, .null, .null, .null, .null, .null, .null, .null, .null, .null, .null, .null]) :: (op, OPo Z (.ref ra) (.ref rb) (iI (-1)) (iI (-1)) (.ref rt) (iI 4) (iI 0)) :: (ra, Own.ArrC Z .long [(jJ 0), (jJ 1), (jJ 2), (jJ 3), (jJ 0), (jJ 0), (jJ 0), (jJ 0), (jJ 0), (jJ 0), (jJ 0), (jJ 0), (jJ 0), (jJ 0), (jJ 0), (jJ 0)]) :: (rb, Own.ArrC Z .long [(jJ 0), (jJ 1), (jJ 2), (jJ 3), (jJ 0), (jJ 0), (jJ 0), (jJ 0), (jJ 0), (jJ 0), (jJ 0), (jJ 0), (jJ 0), (jJ 0), (jJ 0), (jJ 0)]) :: (o0, WEo Z (.ref op) (.ref oc1) (.ref of2) (.ref ol3) (.ref ok) (iI 0) (iI 4) (iI 0) (iI 0)) :: (oc1, Own.ArrC Z .int [(iI 1), (iI 1), (iI 1), (iI 1)]) :: (of2, Own.ArrC Z .int [(.int f0), (.int f1), (.int f2), (.int p3)]) :: (ol3, Own.ArrC Z .int [(iI 0), (iI 0), (iI 0), (iI 0)]) :: (ok, Own.ArrC Z .long [(jJ 0), (jJ 0), (jJ 0), (jJ 0)]) :: fr) := O15.pick 3 rfl
  have O17 : Own.Owns n0 h14 ((rb, Own.ArrC Z .long [(jJ 0), (jJ 1), (jJ 2), (jJ 3), (jJ 0), (jJ 0), (jJ 0), (jJ 0), (jJ 0), (jJ 0), (jJ 0), (jJ 0), (jJ 0), (jJ 0), (jJ 0), (jJ 0)]) :: (rt, Own.ArrC Z (.object "java/math/BigDecimal") [.null, .null, .null, .null, .null, .null, .null, .null, .null, .null, .null, .null, .null, .null, .null, .null]) :: (op, OPo Z (.ref ra) (.ref rb) (iI (-1)) (iI (-1)) (.ref rt) (iI 4) (iI 0)) :: (ra, Own.ArrC Z .long [(jJ 0), (jJ 1), (jJ 2), (jJ 3), (jJ 0), (jJ 0), (jJ 0), (jJ 0), (jJ 0), (jJ 0), (jJ 0), (jJ 0), (jJ 0), (jJ 0), (jJ 0), (jJ 0)]) :: (o0, WEo Z (.ref op) (.ref oc1) (.ref of2) (.ref ol3) (.ref ok) (iI 0) (iI 4) (iI 0) (iI 0)) :: (oc1, Own.ArrC Z .int [(iI 1), (iI 1), (iI 1), (iI 1)]) :: (of2, Own.ArrC Z .int [(.int f0), (.int f1), (.int f2), (.int p3)]) :: (ol3, Own.ArrC Z .int [(iI 0), (iI 0), (iI 0), (iI 0)]) :: (ok, Own.ArrC Z .long [(jJ 0), (jJ 0), (jJ 0), (jJ 0)]) :: fr) := O16.pick 3 rfl
  have O18 : Own.Owns n0 h14 ((ra, Own.ArrC Z .long [(jJ 0), (jJ 1), (jJ 2), (jJ 3), (jJ 0), (jJ 0), (jJ 0), (jJ 0), (jJ 0), (jJ 0), (jJ 0), (jJ 0), (jJ 0), (jJ 0), (jJ 0), (jJ 0)]) :: (rb, Own.ArrC Z .long [(jJ 0), (jJ 1), (jJ 2), (jJ 3), (jJ 0), (jJ 0), (jJ 0), (jJ 0), (jJ 0), (jJ 0), (jJ 0), (jJ 0), (jJ 0), (jJ 0), (jJ 0), (jJ 0)]) :: (rt, Own.ArrC Z (.object "java/math/BigDecimal") [.null, .null, .null, .null, .null, .null, .null, .null, .null, .null, .null, .null, .null, .null, .null, .null]) :: (op, OPo Z (.ref ra) (.ref rb) (iI (-1)) (iI (-1)) (.ref rt) (iI 4) (iI 0)) :: (o0, WEo Z (.ref op) (.ref oc1) (.ref of2) (.ref ol3) (.ref ok) (iI 0) (iI 4) (iI 0) (iI 0)) :: (oc1, Own.ArrC Z .int [(iI 1), (iI 1), (iI 1), (iI 1)]) :: (of2, Own.ArrC Z .int [(.int f0), (.int f1), (.int f2), (.int p3)]) :: (ol3, Own.ArrC Z .int [(iI 0), (iI 0), (iI 0), (iI 0)]) :: (ok, Own.ArrC Z .long [(jJ 0), (jJ 0), (jJ 0), (jJ 0)]) :: fr) := O17.pick 3 rfl
  have O19 : Own.Owns n0 h14 ((op, OPo Z (.ref ra) (.ref rb) (iI (-1)) (iI (-1)) (.ref rt) (iI 4) (iI 0)) :: (ra, Own.ArrC Z .long [(jJ 0), (jJ 1), (jJ 2), (jJ 3), (jJ 0), (jJ 0), (jJ 0), (jJ 0), (jJ 0), (jJ 0), (jJ 0), (jJ 0), (jJ 0), (jJ 0), (jJ 0), (jJ 0)]) :: (rb, Own.ArrC Z .long [(jJ 0), (jJ 1), (jJ 2), (jJ 3), (jJ 0), (jJ 0), (jJ 0), (jJ 0), (jJ 0), (jJ 0), (jJ 0), (jJ 0), (jJ 0), (jJ 0), (jJ 0), (jJ 0)]) :: (rt, Own.ArrC Z (.object "java/math/BigDecimal") [.null, .null, .null, .null, .null, .null, .null, .null, .null, .null, .null, .null, .null, .null, .null, .null]) :: (o0, WEo Z (.ref op) (.ref oc1) (.ref of2) (.ref ol3) (.ref ok) (iI 0) (iI 4) (iI 0) (iI 0)) :: (oc1, Own.ArrC Z .int [(iI 1), (iI 1), (iI 1), (iI 1)]) :: (of2, Own.ArrC Z .int [(.int f0), (.int f1), (.int f2), (.int p3)]) :: (ol3, Own.ArrC Z .int [(iI 0), (iI 0), (iI 0), (iI 0)]) :: (ok, Own.ArrC Z .long [(jJ 0), (jJ 0), (jJ 0), (jJ 0)]) :: fr) := O18.pick 3 rfl
  have O20 : Own.Owns n0 h14 ((ok, Own.ArrC Z .long [(jJ 0), (jJ 0), (jJ 0), (jJ 0)]) :: (op, OPo Z (.ref ra) (.ref rb) (iI (-1)) (iI (-1)) (.ref rt) (iI 4) (iI 0)) :: (ra, Own.ArrC Z .long [(jJ 0), (jJ 1), (jJ 2), (jJ 3), (jJ 0), (jJ 0), (jJ 0), (jJ 0), (jJ 0), (jJ 0), (jJ 0), (jJ 0), (jJ 0), (jJ 0), (jJ 0), (jJ 0)]) :: (rb, Own.ArrC Z .long [(jJ 0), (jJ 1), (jJ 2), (jJ 3), (jJ 0), (jJ 0), (jJ 0), (jJ 0), (jJ 0), (jJ 0), (jJ 0), (jJ 0), (jJ 0), (jJ 0), (jJ 0), (jJ 0)]) :: (rt, Own.ArrC Z (.object "java/math/BigDecimal") [.null, .null, .null, .null, .null, .null, .null, .null, .null, .null, .null, .null, .null, .null, .null, .null]) :: (o0, WEo Z (.ref op) (.ref oc1) (.ref of2) (.ref ol3) (.ref ok) (iI 0) (iI 4) (iI 0) (iI 0)) :: (oc1, Own.ArrC Z .int [(iI 1), (iI 1), (iI 1), (iI 1)]) :: (of2, Own.ArrC Z .int [(.int f0), (.int f1), (.int f2), (.int p3)]) :: (ol3, Own.ArrC Z .int [(iI 0), (iI 0), (iI 0), (iI 0)]) :: fr) := O19.pick 8 rfl
  have O21 : Own.Owns n0 h14 ((ol3, Own.ArrC Z .int [(iI 0), (iI 0), (iI 0), (iI 0)]) :: (ok, Own.ArrC Z .long [(jJ 0), (jJ 0), (jJ 0), (jJ 0)]) :: (op, OPo Z (.ref ra) (.ref rb) (iI (-1)) (iI (-1)) (.ref rt) (iI 4) (iI 0)) :: (ra, Own.ArrC Z .long [(jJ 0), (jJ 1), (jJ 2), (jJ 3), (jJ 0), (jJ 0), (jJ 0), (jJ 0), (jJ 0), (jJ 0), (jJ 0), (jJ 0), (jJ 0), (jJ 0), (jJ 0), (jJ 0)]) :: (rb, Own.ArrC Z .long [(jJ 0), (jJ 1), (jJ 2), (jJ 3), (jJ 0), (jJ 0), (jJ 0), (jJ 0), (jJ 0), (jJ 0), (jJ 0), (jJ 0), (jJ 0), (jJ 0), (jJ 0), (jJ 0)]) :: (rt, Own.ArrC Z (.object "java/math/BigDecimal") [.null, .null, .null, .null, .null, .null, .null, .null, .null, .null, .null, .null, .null, .null, .null, .null]) :: (o0, WEo Z (.ref op) (.ref oc1) (.ref of2) (.ref ol3) (.ref ok) (iI 0) (iI 4) (iI 0) (iI 0)) :: (oc1, Own.ArrC Z .int [(iI 1), (iI 1), (iI 1), (iI 1)]) :: (of2, Own.ArrC Z .int [(.int f0), (.int f1), (.int f2), (.int p3)]) :: fr) := O20.pick 8 rfl
  have O22 : Own.Owns n0 h14 ((of2, Own.ArrC Z .int [(.int f0), (.int f1), (.int f2), (.int p3)]) :: (ol3, Own.ArrC Z .int [(iI 0), (iI 0), (iI 0), (iI 0)]) :: (ok, Own.ArrC Z .long [(jJ 0), (jJ 0), (jJ 0), (jJ 0)]) :: (op, OPo Z (.ref ra) (.ref rb) (iI (-1)) (iI (-1)) (.ref rt) (iI 4) (iI 0)) :: (ra, Own.ArrC Z .long [(jJ 0), (jJ 1), (jJ 2), (jJ 3), (jJ 0), (jJ 0), (jJ 0), (jJ 0), (jJ 0), (jJ 0), (jJ 0), (jJ 0), (jJ 0), (jJ 0), (jJ 0), (jJ 0)]) :: (rb, Own.ArrC Z .long [(jJ 0), (jJ 1), (jJ 2), (jJ 3), (jJ 0), (jJ 0), (jJ 0), (jJ 0), (jJ 0), (jJ 0), (jJ 0), (jJ 0), (jJ 0), (jJ 0), (jJ 0), (jJ 0)]) :: (rt, Own.ArrC Z (.object "java/math/BigDecimal") [.null, .null, .null, .null, .null, .null, .null, .null, .null, .null, .null, .null, .null, .null, .null, .null]) :: (o0, WEo Z (.ref op) (.ref oc1) (.ref of2) (.ref ol3) (.ref ok) (iI 0) (iI 4) (iI 0) (iI 0)) :: (oc1, Own.ArrC Z .int [(iI 1), (iI 1), (iI 1), (iI 1)]) :: fr) := O21.pick 8 rfl
  have O23 : Own.Owns n0 h14 ((oc1, Own.ArrC Z .int [(iI 1), (iI 1), (iI 1), (iI 1)]) :: (of2, Own.ArrC Z .int [(.int f0), (.int f1), (.int f2), (.int p3)]) :: (ol3, Own.ArrC Z .int [(iI 0), (iI 0), (iI 0), (iI 0)]) :: (ok, Own.ArrC Z .long [(jJ 0), (jJ 0), (jJ 0), (jJ 0)]) :: (op, OPo Z (.ref ra) (.ref rb) (iI (-1)) (iI (-1)) (.ref rt) (iI 4) (iI 0)) :: (ra, Own.ArrC Z .long [(jJ 0), (jJ 1), (jJ 2), (jJ 3), (jJ 0), (jJ 0), (jJ 0), (jJ 0), (jJ 0), (jJ 0), (jJ 0), (jJ 0), (jJ 0), (jJ 0), (jJ 0), (jJ 0)]) :: (rb, Own.ArrC Z .long [(jJ 0), (jJ 1), (jJ 2), (jJ 3), (jJ 0), (jJ 0), (jJ 0), (jJ 0), (jJ 0), (jJ 0), (jJ 0), (jJ 0), (jJ 0), (jJ 0), (jJ 0), (jJ 0)]) :: (rt, Own.ArrC Z (.object "java/math/BigDecimal") [.null, .null, .null, .null, .null, .null, .null, .null, .null, .null, .null, .null, .null, .null, .null, .null]) :: (o0, WEo Z (.ref op) (.ref oc1) (.ref of2) (.ref ol3) (.ref ok) (iI 0) (iI 4) (iI 0) (iI 0)) :: fr) := O22.pick 8 rfl
  have O24 : Own.Owns n0 h14 ((o0, WEo Z (.ref op) (.ref oc1) (.ref of2) (.ref ol3) (.ref ok) (iI 0) (iI 4) (iI 0) (iI 0)) :: (oc1, Own.ArrC Z .int [(iI 1), (iI 1), (iI 1), (iI 1)]) :: (of2, Own.ArrC Z .int [(.int f0), (.int f1), (.int f2), (.int p3)]) :: (ol3, Own.ArrC Z .int [(iI 0), (iI 0), (iI 0), (iI 0)]) :: (ok, Own.ArrC Z .long [(jJ 0), (jJ 0), (jJ 0), (jJ 0)]) :: (op, OPo Z (.ref ra) (.ref rb) (iI (-1)) (iI (-1)) (.ref rt) (iI 4) (iI 0)) :: (ra, Own.ArrC Z .long [(jJ 0), (jJ 1), (jJ 2), (jJ 3), (jJ 0), (jJ 0), (jJ 0), (jJ 0), (jJ 0), (jJ 0), (jJ 0), (jJ 0), (jJ 0), (jJ 0), (jJ 0), (jJ 0)]) :: (rb, Own.ArrC Z .long [(jJ 0), (jJ 1), (jJ 2), (jJ 3), (jJ 0), (jJ 0), (jJ 0), (jJ 0), (jJ 0), (jJ 0), (jJ 0), (jJ 0), (jJ 0), (jJ 0), (jJ 0), (jJ 0)]) :: (rt, Own.ArrC Z (.object "java/math/BigDecimal") [.null, .null, .null, .null, .null, .null, .null, .null, .null, .null, .null, .null, .null, .null, .null, .null]) :: fr) := O23.pick 8 rfl
  exact Own.retV hx hret hlk (hb hby d5_15) (by decide) (by decide) ⟨oc1, of2, ol3, rfl, O24⟩

theorem pd5 : parseMethodDescriptor "([II)[I" = some ⟨[(.array .int), .int], some (.array .int)⟩ := by decide +kernel
theorem d6_12 : decode prog_144_method_16_code 12 = .ok (.aload_n 0, 1) := by decide +kernel
theorem d6_13 : decode prog_144_method_16_code 13 = .ok (.aload_n 0, 1) := by decide +kernel
theorem d6_14 : decode prog_144_method_16_code 14 = .ok (.getfield 19, 3) := by decide +kernel
theorem d6_17 : decode prog_144_method_16_code 17 = .ok (.iconst 2, 1) := by decide +kernel
theorem d6_18 : decode prog_144_method_16_code 18 = .ok (.aload_n 0, 1) := by decide +kernel
theorem d6_19 : decode prog_144_method_16_code 19 = .ok (.getfield 56, 3) := by decide +kernel
theorem d6_22 : decode prog_144_method_16_code 22 = .ok (.imul, 1) := by decide +kernel
theorem d6_23 : decode prog_144_method_16_code 23 = .ok (.invokestatic 73, 3) := by decide +kernel
theorem d6_26 : decode prog_144_method_16_code 26 = .ok (.putfield 19, 3) := by decide +kernel
theorem d6_29 : decode prog_144_method_16_code 29 = .ok (.aload_n 0, 1) := by decide +kernel
theorem d6_30 : decode prog_144_method_16_code 30 = .ok (.aload_n 0, 1) := by decide +kernel
theorem d6_31 : decode prog_144_method_16_code 31 = .ok (.getfield 23, 3) := by decide +kernel
theorem d6_34 : decode prog_144_method_16_code 34 = .ok (.iconst 2, 1) := by decide +kernel
theorem d6_35 : decode prog_144_method_16_code 35 = .ok (.aload_n 0, 1) := by decide +kernel
theorem d6_36 : decode prog_144_method_16_code 36 = .ok (.getfield 56, 3) := by decide +kernel
theorem d6_39 : decode prog_144_method_16_code 39 = .ok (.imul, 1) := by decide +kernel
theorem d6_40 : decode prog_144_method_16_code 40 = .ok (.invokestatic 73, 3) := by decide +kernel
theorem d6_43 : decode prog_144_method_16_code 43 = .ok (.putfield 23, 3) := by decide +kernel
theorem d6_46 : decode prog_144_method_16_code 46 = .ok (.aload_n 0, 1) := by decide +kernel
theorem d6_47 : decode prog_144_method_16_code 47 = .ok (.aload_n 0, 1) := by decide +kernel
theorem d6_48 : decode prog_144_method_16_code 48 = .ok (.getfield 26, 3) := by decide +kernel
theorem d6_51 : decode prog_144_method_16_code 51 = .ok (.iconst 2, 1) := by decide +kernel
theorem d6_52 : decode prog_144_method_16_code 52 = .ok (.aload_n 0, 1) := by decide +kernel
theorem d6_53 : decode prog_144_method_16_code 53 = .ok (.getfield 56, 3) := by decide +kernel
theorem d6_56 : decode prog_144_method_16_code 56 = .ok (.imul, 1) := by decide +kernel
theorem d6_57 : decode prog_144_method_16_code 57 = .ok (.invokestatic 73, 3) := by decide +kernel
theorem d6_60 : decode prog_144_method_16_code 60 = .ok (.putfield 26, 3) := by decide +kernel
theorem ef6_4 (m : MethodId) (x0 : Addr) (x1 : Int32) : entryFrame m #[(.ref x0), (.int x1)] 2 = mkF m 0 #[.val (.ref x0), .val (.int x1)] [] := by first | (simp [entryFrame, mkF, argsToLocals, Value.category]; done) | rfl
set_option maxRecDepth 65536 in
set_option maxHeartbeats 40000000 in
theorem rm6_4 (l : Launch) (Z : State) (a0 : Array Value) (hw : ∀ d ∈ tables_1, d.before a0 Z = true) (o0 : Addr) (p1 : Int32) (h0 : Heap) (n0 : Nat) (op oc of' ol ok : Addr) (f0 f1 f2 f3 : Int32) (fr : List (Addr × (Cell → Prop))) (O0 : Own.Owns n0 h0 ((o0, WEo Z (.ref op) (.ref oc) (.ref of') (.ref ol) (.ref ok) (iI 0) (iI 4) (iI 0) (iI 0)) :: (oc, Own.ArrC Z .int [(iI 1), (iI 1), (iI 1), (iI 1)]) :: (of', Own.ArrC Z .int [(.int f0), (.int f1), (.int f2), (.int f3)]) :: (ol, Own.ArrC Z .int [(iI 0), (iI 0), (iI 0), (iI 0)]) :: fr))  : Own.Does l (⟨"com/example/tracewarden/tracewarden/monitor/WindowEntries", "addStretch", "(I)V"⟩ : MethodName) prog_144_method_16_code 2 none [] ({ frames := 2, cells := 3, slots := 24, locals := 33 } : Room) Z #[(.ref o0), (.int p1)] h0 n0 (fun v h => ∃ oc2 of2 ol2, v = none ∧ Own.Owns n0 h ((o0, WEo Z (.ref op) (.ref oc2) (.ref of2) (.ref ol2) (.ref ok) (iI 0) (iI 5) (iI 0) (iI 0)) :: (oc2, Own.ArrC Z .int [(iI 1), (iI 1), (iI 1), (iI 1), (iI 1), (iI 0), (iI 0), (iI 0)]) :: (of2, Own.ArrC Z .int [(.int f0), (.int f1), (.int f2), (.int f3), (.int p1), (iI 0), (iI 0), (iI 0)]) :: (ol2, Own.ArrC Z .int [(iI 0), (iI 0), (iI 0), (iI 0), (iI 0), (iI 0), (iI 0), (iI 0)]) :: fr)) := by
  refine Own.doesOf pn7 ?_
  intro p e s m below meth c hx hby hml hret hlk hown hnm hZ
  refine Own.Goes.cast (ef6_4 m o0 p1) ?_
  refine Own.aloadN hx (.ref o0) (hb hby d6_0) rfl rfl rfl ?_
  refine Own.getfield hx hZ hown O0 0 6 rfl rfl (hw _ (wm 55 rfl)) (hb hby d6_1) rfl ?_
  refine Own.aloadN hx (.ref o0) (hb hby d6_4) rfl rfl rfl ?_
  refine Own.getfield hx hZ hown O0 0 1 rfl rfl (hw _ (wm 36 rfl)) (hb hby d6_5) rfl ?_
  refine Own.arrlen hx hZ O0 1 rfl (4 : Int32) rfl (hb hby d6_8) rfl ?_
  have hc1 : (4 : Int32) = (4 : Int32) := by decide
  refine Own.icmpFn hx (Own.q_ne (4 : Int32) (4 : Int32)) (hb hby d6_9) (pcN := 12) rfl (by decide) (pcT := 63) rfl (fun q => absurd hc1 q) (fun _ => ?_)
  refine Own.aloadN hx (.ref o0) (hb hby d6_12) rfl rfl rfl ?_
  refine Own.aloadN hx (.ref o0) (hb hby d6_13) rfl rfl rfl ?_
  refine Own.getfield hx hZ hown O0 0 1 rfl rfl (hw _ (wm 36 rfl)) (hb hby d6_14) rfl ?_
  refine Own.iconst hx (2 : Int32) (hb hby d6_17) rfl (by decide) ?_
  refine Own.aloadN hx (.ref o0) (hb hby d6_18) rfl rfl rfl ?_
  refine Own.getfield hx hZ hown O0 0 6 rfl rfl (hw _ (wm 55 rfl)) (hb hby d6_19) rfl ?_
  refine Own.imul hx (hb hby d6_22) rfl ?_
  refine Own.vI (8 : Int32) (by decide) ?_
  have O3 : Own.Owns n0 h0 ((oc, Own.ArrC Z .int [(iI 1), (iI 1), (iI 1), (iI 1)]) :: (o0, WEo Z (.ref op) (.ref oc) (.ref of') (.ref ol) (.ref ok) (iI 0) (iI 4) (iI 0) (iI 0)) :: (of', Own.ArrC Z .int [(.int f0), (.int f1), (.int f2), (.int f3)]) :: (ol, Own.ArrC Z .int [(iI 0), (iI 0), (iI 0), (iI 0)]) :: fr) := O0.pick 1 rfl
  refine Own.callS hx hZ hown (hw _ (wm 73 rfl)) (hw _ (wm 74 rfl)) (hw _ (wm 75 rfl)) (hw _ (wm 76 rfl)) (by decide) pd5 (argsL := [(.ref oc), (.int (8 : Int32))]) (rest := [(.ref o0)]) rfl (W := 1) (Nat.le_of_eq rfl) (rm := ({ frames := 1, cells := 1, slots := 8, locals := 18 } : Room)) (by decide) (by decide) (by decide) (by decide) (k' := 1) (n' := 8) rfl rfl (by rw [hml]; rfl) [(.int (8 : Int32)), (.ref oc), (.ref o0)] rfl (hb hby d6_23) (pc' := 26) rfl (rm9 l Z a0 hw oc h0 n0 (1 : Int32) (1 : Int32) (1 : Int32) (1 : Int32) ((o0, WEo Z (.ref op) (.ref oc) (.ref of') (.ref ol) (.ref ok) (iI 0) (iI 4) (iI 0) (iI 0)) :: (of', Own.ArrC Z .int [(.int f0), (.int f1), (.int f2), (.int f3)]) :: (ol, Own.ArrC Z .int [(iI 0), (iI 0), (iI 0), (iI 0)]) :: fr) O3) ?_
  rintro _ h5 ⟨r4, rfl, O6⟩
  show Own.Goes _ _ _ _ _ _ _ _ _ _ _ _ _ _ _ _ _ (mkF m 26 #[.val (.ref o0), .val (.int p1)] [(.ref r4), (.ref o0)])
  refine Own.putfield hx hZ hown O6 2 1 rfl rfl (hw _ (wm 36 rfl)) (Or.inl (hw _ (wm 37 rfl))) (hw _ (wm 2 rfl)) (ty := (.array .int)) (by decide) rfl rfl ((r4, Own.ArrC Z .int [(iI 1), (iI 1), (iI 1), (iI 1), (iI 0), (iI 0), (iI 0), (iI 0)]) :: (oc, Own.ArrC Z .int [(iI 1), (iI 1), (iI 1), (iI 1)]) :: (o0, WEo Z (.ref op) (.ref r4) (.ref of') (.ref ol) (.ref ok) (iI 0) (iI 4) (iI 0) (iI 0)) :: (of', Own.ArrC Z .int [(.int f0), (.int f1), (.int f2), (.int f3)]) :: (ol, Own.ArrC Z .int [(iI 0), (iI 0), (iI 0), (iI 0)]) :: fr) rfl (hb hby d6_26) rfl ?_
  intro h7 O8
  refine Own.aloadN hx (.ref o0) (hb hby d6_29) rfl rfl rfl ?_
  refine Own.aloadN hx (.ref o0) (hb hby d6_30) rfl rfl rfl ?_
  refine Own.getfield hx hZ hown O8 2 2 rfl rfl (hw _ (wm 38 rfl)) (hb hby d6_31) rfl ?_
  refine Own.iconst hx (2 : Int32) (hb hby d6_34) rfl (by decide) ?_
  refine Own.aloadN hx (.ref o0) (hb hby d6_35) rfl rfl rfl ?_
  refine Own.getfield hx hZ hown O8 2 6 rfl rfl (hw _ (wm 55 rfl)) (hb hby d6_36) rfl ?_
  refine Own.imul hx (hb hby d6_39) rfl ?_
  refine Own.vI (8 : Int32) (by decide) ?_
  have O9 : Own.Owns n0 h7 ((of', Own.ArrC Z .int [(.int f0), (.int f1), (.int f2), (.int f3)]) :: (r4, Own.ArrC Z .int [(iI 1), (iI 1), (iI 1), (iI 1), (iI 0), (iI 0), (iI 0), (iI 0)]) :: (oc, Own.ArrC Z .int [(iI 1), (iI 1), (iI 1), (iI 1)]) :: (o0, WEo Z (.ref op) (.ref r4) (.ref of') (.ref ol) (.ref ok) (iI 0) (iI 4) (iI 0) (iI 0)) :: (ol, Own.ArrC Z .int [(iI 0), (iI 0), (iI 0), (iI 0)]) :: fr) := O8.pick 3 rfl
  refine Own.callS hx hZ hown (hw _ (wm 73 rfl)) (hw _ (wm 74 rfl)) (hw _ (wm 75 rfl)) (hw _ (wm 76 rfl)) (by decide) pd5 (argsL := [(.ref of'), (.int (8 : Int32))]) (rest := [(.ref o0)]) rfl (W := 1) (Nat.le_of_eq rfl) (rm := ({ frames := 1, cells := 1, slots := 8, locals := 18 } : Room)) (by decide) (by decide) (by decide) (by decide) (k' := 2) (n' := 16) rfl rfl (by rw [hml]; rfl) [(.int (8 : Int32)), (.ref of'), (.ref o0)] rfl (hb hby d6_40) (pc' := 43) rfl (rm9 l Z a0 hw of' h7 n0 f0 f1 f2 f3 ((r4, Own.ArrC Z .int [(iI 1), (iI 1), (iI 1), (iI 1), (iI 0), (iI 0), (iI 0), (iI 0)]) :: (oc, Own.ArrC Z .int [(iI 1), (iI 1), (iI 1), (iI 1)]) :: (o0, WEo Z (.ref op) (.ref r4) (.ref of') (.ref ol) (.ref ok) (iI 0) (iI 4) (iI 0) (iI 0)) :: (ol, Own.ArrC Z .int [(iI 0), (iI 0), (iI 0), (iI 0)]) :: fr) O9) ?_
  rintro _ h11 ⟨r10, rfl, O12⟩
  show Own.Goes _ _ _ _ _ _ _ _ _ _ _ _ _ _ _ _ _ (mkF m 43 #[.val (.ref o0), .val (.int p1)] [(.ref r10), (.ref o0)])
  refine Own.putfield hx hZ hown O12 4 2 rfl rfl (hw _ (wm 38 rfl)) (Or.inl (hw _ (wm 39 rfl))) (hw _ (wm 2 rfl)) (ty := (.array .int)) (by decide) rfl rfl ((r10, Own.ArrC Z .int [(.int f0), (.int f1), (.int f2), (.int f3), (iI 0), (iI 0), (iI 0), (iI 0)]) :: (of', Own.ArrC Z .int [(.int f0), (.int f1), (.int f2), (.int f3)]) :: (r4, Own.ArrC Z .int [(iI 1), (iI 1), (iI 1), (iI 1), (iI 0), (iI 0), (iI 0), (iI 0)]) :: (oc, Own.ArrC Z .int [(iI 1), (iI 1), (iI 1), (iI 1)]) :: (o0, WEo Z (.ref op) (.ref r4) (.ref r10) (.ref ol) (.ref ok) (iI 0) (iI 4) (iI 0) (iI 0)) :: (ol, Own.ArrC Z .int [(iI 0), (iI 0), (iI 0), (iI 0)]) :: fr) rfl (hb hby d6_43) rfl ?_
  intro h13 O14
  refine Own.aloadN hx (.ref o0) (hb hby d6_46) rfl rfl rfl ?_
  refine Own.aloadN hx (.ref o0) (hb hby d6_47) rfl rfl rfl ?_
  refine Own.getfield hx hZ hown O14 4 3 rfl rfl (hw _ (wm 40 rfl)) (hb hby d6_48) rfl ?_
  refine Own.iconst hx (2 : Int32) (hb hby d6_51) rfl (by decide) ?_
  refine Own.aloadN hx (.ref o0) (hb hby d6_52) rfl rfl rfl ?_
  refine Own.getfield hx hZ hown O14 4 6 rfl rfl (hw _ (wm 55 rfl)) (hb hby d6_53) rfl ?_
  refine Own.imul hx (hb hby d6_56) rfl ?_
  refine Own.vI (8 : Int32) (by decide) ?_
  have O15 : Own.Owns n0 h13 ((ol, Own.ArrC Z .int [(iI 0), (iI 0), (iI 0), (iI 0)]) :: (r10, Own.ArrC Z .int [(.int f0), (.int f1), (.int f2), (.int f3), (iI 0), (iI 0), (iI 0), (iI 0)]) :: (of', Own.ArrC Z .int [(.int f0), (.int f1), (.int f2), (.int f3)]) :: (r4, Own.ArrC Z .int [(iI 1), (iI 1), (iI 1), (iI 1), (iI 0), (iI 0), (iI 0), (iI 0)]) :: (oc, Own.ArrC Z .int [(iI 1), (iI 1), (iI 1), (iI 1)]) :: (o0, WEo Z (.ref op) (.ref r4) (.ref r10) (.ref ol) (.ref ok) (iI 0) (iI 4) (iI 0) (iI 0)) :: fr) := O14.pick 5 rfl
  refine Own.callS hx hZ hown (hw _ (wm 73 rfl)) (hw _ (wm 74 rfl)) (hw _ (wm 75 rfl)) (hw _ (wm 76 rfl)) (by decide) pd5 (argsL := [(.ref ol), (.int (8 : Int32))]) (rest := [(.ref o0)]) rfl (W := 1) (Nat.le_of_eq rfl) (rm := ({ frames := 1, cells := 1, slots := 8, locals := 18 } : Room)) (by decide) (by decide) (by decide) (by decide) (k' := 3) (n' := 24) rfl rfl (by rw [hml]; rfl) [(.int (8 : Int32)), (.ref ol), (.ref o0)] rfl (hb hby d6_57) (pc' := 60) rfl (rm9 l Z a0 hw ol h13 n0 (0 : Int32) (0 : Int32) (0 : Int32) (0 : Int32) ((r10, Own.ArrC Z .int [(.int f0), (.int f1), (.int f2), (.int f3), (iI 0), (iI 0), (iI 0), (iI 0)]) :: (of', Own.ArrC Z .int [(.int f0), (.int f1), (.int f2), (.int f3)]) :: (r4, Own.ArrC Z .int [(iI 1), (iI 1), (iI 1), (iI 1), (iI 0), (iI 0), (iI 0), (iI 0)]) :: (oc, Own.ArrC Z .int [(iI 1), (iI 1), (iI 1), (iI 1)]) :: (o0, WEo Z (.ref op) (.ref r4) (.ref r10) (.ref ol) (.ref ok) (iI 0) (iI 4) (iI 0) (iI 0)) :: fr) O15) ?_
  rintro _ h17 ⟨r16, rfl, O18⟩
  show Own.Goes _ _ _ _ _ _ _ _ _ _ _ _ _ _ _ _ _ (mkF m 60 #[.val (.ref o0), .val (.int p1)] [(.ref r16), (.ref o0)])
  refine Own.putfield hx hZ hown O18 6 3 rfl rfl (hw _ (wm 40 rfl)) (Or.inl (hw _ (wm 41 rfl))) (hw _ (wm 2 rfl)) (ty := (.array .int)) (by decide) rfl rfl ((r16, Own.ArrC Z .int [(iI 0), (iI 0), (iI 0), (iI 0), (iI 0), (iI 0), (iI 0), (iI 0)]) :: (ol, Own.ArrC Z .int [(iI 0), (iI 0), (iI 0), (iI 0)]) :: (r10, Own.ArrC Z .int [(.int f0), (.int f1), (.int f2), (.int f3), (iI 0), (iI 0), (iI 0), (iI 0)]) :: (of', Own.ArrC Z .int [(.int f0), (.int f1), (.int f2), (.int f3)]) :: (r4, Own.ArrC Z .int [(iI 1), (iI 1), (iI 1), (iI 1), (iI 0), (iI 0), (iI 0), (iI 0)]) :: (oc, Own.ArrC Z .int [(iI 1), (iI 1), (iI 1), (iI 1)]) :: (o0, WEo Z (.ref op) (.ref r4) (.ref r10) (.ref r16) (.ref ok) (iI 0) (iI 4) (iI 0) (iI 0)) :: fr) rfl (hb hby d6_60) rfl ?_
  intro h19 O20
  refine Own.aloadN hx (.ref o0) (hb hby d6_63) rfl rfl rfl ?_
  refine Own.getfield hx hZ hown O20 6 1 rfl rfl (hw _ (wm 36 rfl)) (hb hby d6_64) rfl ?_
  refine Own.aloadN hx (.ref o0) (hb hby d6_67) rfl rfl rfl ?_
  refine Own.getfield hx hZ hown O20 6 6 rfl rfl (hw _ (wm 55 rfl)) (hb hby d6_68) rfl ?_
  refine Own.iconst hx (1 : Int32) (hb hby d6_71) rfl (by decide) ?_
  refine Own.iastore hx hZ O20 4 4 rfl (by decide) (by exact (show 4 < 8 by decide)) ((r16, Own.ArrC Z .int [(iI 0), (iI 0), (iI 0), (iI 0), (iI 0), (iI 0), (iI 0), (iI 0)]) :: (ol, Own.ArrC Z .int [(iI 0), (iI 0), (iI 0), (iI 0)]) :: (r10, Own.ArrC Z .int [(.int f0), (.int f1), (.int f2), (.int f3), (iI 0), (iI 0), (iI 0), (iI 0)]) :: (of', Own.ArrC Z .int [(.int f0), (.int f1), (.int f2), (.int f3)]) :: (r4, Own.ArrC Z .int [(iI 1), (iI 1), (iI 1), (iI 1), (iI 1), (iI 0), (iI 0), (iI 0)]) :: (oc, Own.ArrC Z .int [(iI 1), (iI 1), (iI 1), (iI 1)]) :: (o0, WEo Z (.ref op) (.ref r4) (.ref r10) (.ref r16) (.ref ok) (iI 0) (iI 4) (iI 0) (iI 0)) :: fr) rfl (hb hby d6_72) rfl ?_
  intro h21 O22
  refine Own.aloadN hx (.ref o0) (hb hby d6_73) rfl rfl rfl ?_
  refine Own.getfield hx hZ hown O22 6 2 rfl rfl (hw _ (wm 38 rfl)) (hb hby d6_74) rfl ?_
  refine Own.aloadN hx (.ref o0) (hb hby d6_77) rfl rfl rfl ?_
  refine Own.dup hx (hb hby d6_78) rfl rfl ?_
  refine Own.getfield hx hZ hown O22 6 6 rfl rfl (hw _ (wm 55 rfl)) (hb hby d6_79) rfl ?_
  refine Own.dupX1 hx (hb hby d6_82) rfl rfl rfl ?_
  refine Own.iconst hx (1 : Int32) (hb hby d6_83) rfl (by decide) ?_
  refine Own.iadd hx (hb hby d6_84) rfl ?_
  refine Own.vI (5 : Int32) (by decide) ?_
  refine Own.putfield hx hZ hown O22 6 6 rfl rfl (hw _ (wm 55 rfl)) (Or.inl (hw _ (wm 56 rfl))) (hw _ (wm 2 rfl)) (ty := .int) (by decide) rfl rfl ((r16, Own.ArrC Z .int [(iI 0), (iI 0), (iI 0), (iI 0), (iI 0), (iI 0), (iI 0), (iI 0)]) :: (ol, Own.ArrC Z .int [(iI 0), (iI 0), (iI 0), (iI 0)]) :: (r10, Own.ArrC Z .int [(.int f0), (.int f1), (.int f2), (.int f3), (iI 0), (iI 0), (iI 0), (iI 0)]) :: (of', Own.ArrC Z .int [(.int f0), (.int f1), (.int f2), (.int f3)]) :: (r4, Own.ArrC Z .int [(iI 1), (iI 1), (iI 1), (iI 1), (iI 1), (iI 0), (iI 0), (iI 0)]) :: (oc, Own.ArrC Z .int [(iI 1), (iI 1), (iI 1), (iI 1)]) :: (o0, WEo Z (.ref op) (.ref r4) (.ref r10) (.ref r16) (.ref ok) (iI 0) (iI 5) (iI 0) (iI 0)) :: fr) rfl (hb hby d6_85) rfl ?_
  intro h23 O24
  refine Own.iloadN hx p1 (hb hby d6_88) rfl rfl ?_
  refine Own.iastore hx hZ O24 2 4 rfl (by decide) (by exact (show 4 < 8 by decide)) ((r16, Own.ArrC Z .int [(iI 0), (iI 0), (iI 0), (iI 0), (iI 0), (iI 0), (iI 0), (iI 0)]) :: (ol, Own.ArrC Z .int [(iI 0), (iI 0), (iI 0), (iI 0)]) :: (r10, Own.ArrC Z .int [(.int f0), (.int f1), (.int f2), (.int f3), (.int p1), (iI 0), (iI 0), (iI 0)]) :: (of', Own.ArrC Z .int [(.int f0), (.int f1), (.int f2), (.int f3)]) :: (r4, Own.ArrC Z .int [(iI 1), (iI 1), (iI 1), (iI 1), (iI 1), (iI 0), (iI 0), (iI 0)]) :: (oc, Own.ArrC Z .int [(iI 1), (iI 1), (iI 1), (iI 1)]) :: (o0, WEo Z (.ref op) (.ref r4) (.ref r10) (.ref r16) (.ref ok) (iI 0) (iI 5) (iI 0) (iI 0)) :: fr) rfl (hb hby d6_89) rfl ?_
  intro h25 O26
  have O27 : Own.Owns n0 h25 ((r10, Own.ArrC Z .int [(.int f0), (.int f1), (.int f2), (.int f3), (.int p1), (iI 0), (iI 0), (iI 0)]) :: (r16, Own.ArrC Z .int [(iI 0), (iI 0), (iI 0), (iI 0), (iI 0), (iI 0), (iI 0), (iI 0)]) :: (ol, Own.ArrC Z .int [(iI 0), (iI 0), (iI 0), (iI 0)]) :: (of', Own.ArrC Z .int [(.int f0), (.int f1), (.int f2), (.int f3)]) :: (r4, Own.ArrC Z .int [(iI 1), (iI 1), (iI 1), (iI 1), (iI 1), (iI 0), (iI 0), (iI 0)]) :: (oc, Own.ArrC Z .int [(iI 1), (iI 1), (iI 1), (iI 1)]) :: (o0, WEo Z (.ref op) (.ref r4) (.ref r10) (.ref r16) (.ref ok) (iI 0) (iI 5) (iI 0) (iI 0)) :: fr) := O26.pick 2 rfl
  have O28 : Own.Owns n0 h25 ((r4, Own.ArrC Z .int [(iI 1), (iI 1), (iI 1), (iI 1), (iI 1), (iI 0), (iI 0), (iI 0)]) :: (r10, Own.ArrC Z .int [(.int f0), (.int f1), (.int f2), (.int f3), (.int p1), (iI 0), (iI 0), (iI 0)]) :: (r16, Own.ArrC Z .int [(iI 0), (iI 0), (iI 0), (iI 0), (iI 0), (iI 0), (iI 0), (iI 0)]) :: (ol, Own.ArrC Z .int [(iI 0), (iI 0), (iI 0), (iI 0)]) :: (of', Own.ArrC Z .int [(.int f0), (.int f1), (.int f2), (.int f3)]) :: (oc, Own.ArrC Z .int [(iI 1), (iI 1), (iI 1), (iI 1)]) :: (o0, WEo Z (.ref op) (.ref r4) (.ref r10) (.ref r16) (.ref ok) (iI 0) (iI 5) (iI 0) (iI 0)) :: fr) := O27.pick 4 rfl
  have O29 : Own.Owns n0 h25 ((o0, WEo Z (.ref op) (.ref r4) (.ref r10) (.ref r16) (.ref ok) (iI 0) (iI 5) (iI 0) (iI 0)) :: (r4, Own.ArrC Z .int [(iI 1), (iI 1), (iI 1), (iI 1), (iI 1), (iI 0), (iI 0), (iI 0)]) :: (r10, Own.ArrC Z .int [(.int f0), (.int f1), (.int f2), (.int f3), (.int p1), (iI 0), (iI 0), (iI 0)]) :: (r16, Own.ArrC Z .int [(iI 0), (iI 0), (iI 0), (iI 0), (iI 0), (iI 0), (iI 0), (iI 0)]) :: (ol, Own.ArrC Z .int [(iI 0), (iI 0), (iI 0), (iI 0)]) :: (of', Own.ArrC Z .int [(.int f0), (.int f1), (.int f2), (.int f3)]) :: (oc, Own.ArrC Z .int [(iI 1), (iI 1), (iI 1), (iI 1)]) :: fr) := O28.pick 6 rfl
  have O30 : Own.Owns n0 h25 ((ol, Own.ArrC Z .int [(iI 0), (iI 0), (iI 0), (iI 0)]) :: (o0, WEo Z (.ref op) (.ref r4) (.ref r10) (.ref r16) (.ref ok) (iI 0) (iI 5) (iI 0) (iI 0)) :: (r4, Own.ArrC Z .int [(iI 1), (iI 1), (iI 1), (iI 1), (iI 1), (iI 0), (iI 0), (iI 0)]) :: (r10, Own.ArrC Z .int [(.int f0), (.int f1), (.int f2), (.int f3), (.int p1), (iI 0), (iI 0), (iI 0)]) :: (r16, Own.ArrC Z .int [(iI 0), (iI 0), (iI 0), (iI 0), (iI 0), (iI 0), (iI 0), (iI 0)]) :: (of', Own.ArrC Z .int [(.int f0), (.int f1), (.int f2), (.int f3)]) :: (oc, Own.ArrC Z .int [(iI 1), (iI 1), (iI 1), (iI 1)]) :: fr) := O29.pick 4 rfl
  have O31 : Own.Owns n0 h25 ((of', Own.ArrC Z .int [(.int f0), (.int f1), (.int f2), (.int f3)]) :: (ol, Own.ArrC Z .int [(iI 0), (iI 0), (iI 0), (iI 0)]) :: (o0, WEo Z (.ref op) (.ref r4) (.ref r10) (.ref r16) (.ref ok) (iI 0) (iI 5) (iI 0) (iI 0)) :: (r4, Own.ArrC Z .int [(iI 1), (iI 1), (iI 1), (iI 1), (iI 1), (iI 0), (iI 0), (iI 0)]) :: (r10, Own.ArrC Z .int [(.int f0), (.int f1), (.int f2), (.int f3), (.int p1), (iI 0), (iI 0), (iI 0)]) :: (r16, Own.ArrC Z .int [(iI 0), (iI 0), (iI 0), (iI 0), (iI 0), (iI 0), (iI 0), (iI 0)]) :: (oc, Own.ArrC Z .int [(iI 1), (iI 1), (iI 1), (iI 1)]) :: fr) := O30.pick 5 rfl
  have O32 : Own.Owns n0 h25 ((oc, Own.ArrC Z .int [(iI 1), (iI 1), (iI 1), (iI 1)]) :: (of', Own.ArrC Z .int [(.int f0), (.int f1), (.int f2), (.int f3)]) :: (ol, Own.ArrC Z .int [(iI 0), (iI 0), (iI 0), (iI 0)]) :: (o0, WEo Z (.ref op) (.ref r4) (.ref r10) (.ref r16) (.ref ok) (iI 0) (iI 5) (iI 0) (iI 0)) :: (r4, Own.ArrC Z .int [(iI 1), (iI 1), (iI 1), (iI 1), (iI 1), (iI 0), (iI 0), (iI 0)]) :: (r10, Own.ArrC Z .int [(.int f0), (.int f1), (.int f2), (.int f3), (.int p1), (iI 0), (iI 0), (iI 0)]) :: (r16, Own.ArrC Z .int [(iI 0), (iI 0), (iI 0), (iI 0), (iI 0), (iI 0), (iI 0), (iI 0)]) :: fr) := O31.pick 6 rfl
  exact Own.retV hx hret hlk (hb hby d6_90) (by decide) (by decide) ⟨r4, r10, r16, rfl, O32.tail.tail.tail⟩

theorem ef5_4 (m : MethodId) (x0 : Addr) (x1 : Int64) (x3 : Int32) : entryFrame m #[(.ref x0), (.long x1), .null, (.int x3)] 5 = mkF m 0 #[.val (.ref x0), .val (.long x1), .second, .val .null, .val (.int x3)] [] := by first | (simp [entryFrame, mkF, argsToLocals, Value.category]; done) | rfl
set_option maxRecDepth 65536 in
set_option maxHeartbeats 40000000 in
theorem rm5_4 (l : Launch) (Z : State) (a0 : Array Value) (hw : ∀ d ∈ tables_1, d.before a0 Z = true) (o0 : Addr) (p3 : Int32) (h0 : Heap) (n0 : Nat) (oc of' ol ok op ra rb rt : Addr) (f0 f1 f2 f3 : Int32) (fr : List (Addr × (Cell → Prop))) (O0 : Own.Owns n0 h0 ((o0, WEo Z (.ref op) (.ref oc) (.ref of') (.ref ol) (.ref ok) (iI 0) (iI 4) (iI 0) (iI 0)) :: (oc, Own.ArrC Z .int [(iI 1), (iI 1), (iI 1), (iI 1)]) :: (of', Own.ArrC Z .int [(.int f0), (.int f1), (.int f2), (.int f3)]) :: (ol, Own.ArrC Z .int [(iI 0), (iI 0), (iI 0), (iI 0)]) :: (ok, Own.ArrC Z .long [(jJ 0), (jJ 0), (jJ 0), (jJ 0)]) :: (op, OPo Z (.ref ra) (.ref rb) (iI (-1)) (iI (-1)) (.ref rt) (iI 4) (iI 0)) :: (ra, Own.ArrC Z .long [(jJ 0), (jJ 1), (jJ 2), (jJ 3), (jJ 0), (jJ 0), (jJ 0), (jJ 0), (jJ 0), (jJ 0), (jJ 0), (jJ 0), (jJ 0), (jJ 0), (jJ 0), (jJ 0)]) :: (rb, Own.ArrC Z .long [(jJ 0), (jJ 1), (jJ 2), (jJ 3), (jJ 0), (jJ 0), (jJ 0), (jJ 0), (jJ 0), (jJ 0), (jJ 0), (jJ 0), (jJ 0), (jJ 0), (jJ 0), (jJ 0)]) :: (rt, Own.ArrC Z (.object "java/math/BigDecimal") [.null, .null, .null, .null, .null, .null, .null, .null, .null, .null, .null, .null, .null, .null, .null, .null]) :: fr))  : Own.Does l (⟨"com/example/tracewarden/tracewarden/monitor/WindowEntries", "add", "(JLjava/math/BigDecimal;I)V"⟩ : MethodName) prog_144_method_14_code 5 none [] ({ frames := 3, cells := 3, slots := 24, locals := 48 } : Room) Z #[(.ref o0), (.long (4 : Int64)), .null, (.int p3)] h0 n0 (fun v h => ∃ oc2 of2 ol2, v = none ∧ Own.Owns n0 h ((o0, WEo Z (.ref op) (.ref oc2) (.ref of2) (.ref ol2) (.ref ok) (iI 0) (iI 5) (iI 0) (iI 0)) :: (oc2, Own.ArrC Z .int [(iI 1), (iI 1), (iI 1), (iI 1), (iI 1), (iI 0), (iI 0), (iI 0)]) :: (of2, Own.ArrC Z .int [(.int f0), (.int f1), (.int f2), (.int f3), (.int p3), (iI 0), (iI 0), (iI 0)]) :: (ol2, Own.ArrC Z .int [(iI 0), (iI 0), (iI 0), (iI 0), (iI 0), (iI 0), (iI 0), (iI 0)]) :: (ok, Own.ArrC Z .long [(jJ 0), (jJ 0), (jJ 0), (jJ 0)]) :: (op, OPo Z (.ref ra) (.ref rb) (iI (-1)) (iI (-1)) (.ref rt) (iI 5) (iI 0)) :: (ra, Own.ArrC Z .long [(jJ 0), (jJ 1), (jJ 2), (jJ 3), (jJ 4), (jJ 0), (jJ 0), (jJ 0), (jJ 0), (jJ 0), (jJ 0), (jJ 0), (jJ 0), (jJ 0), (jJ 0), (jJ 0)]) :: (rb, Own.ArrC Z .long [(jJ 0), (jJ 1), (jJ 2), (jJ 3), (jJ 4), (jJ 0), (jJ 0), (jJ 0), (jJ 0), (jJ 0), (jJ 0), (jJ 0), (jJ 0), (jJ 0), (jJ 0), (jJ 0)]) :: (rt, Own.ArrC Z (.object "java/math/BigDecimal") [.null, .null, .null, .null, .null, .null, .null, .null, .null, .null, .null, .null, .null, .null, .null, .null]) :: fr)) := by
  refine Own.doesOf pn8 ?_
  intro p e s m below meth c hx hby hml hret hlk hown hnm hZ
  refine Own.Goes.cast (ef5_4 m o0 (4 : Int64) p3) ?_
  refine Own.aloadN hx (.ref o0) (hb hby d5_0) rfl rfl rfl ?_
  refine Own.iload hx p3 (hb hby d5_1) rfl rfl ?_
  have O4 : Own.Owns n0 h0 ((ol, Own.ArrC Z .int [(iI 0), (iI 0), (iI 0), (iI 0)]) :: (o0, WEo Z (.ref op) (.ref oc) (.ref of') (.ref ol) (.ref ok) (iI 0) (iI 4) (iI 0) (iI 0)) :: (oc, Own.ArrC Z .int [(iI 1), (iI 1), (iI 1), (iI 1)]) :: (of', Own.ArrC Z .int [(.int f0), (.int f1), (.int f2), (.int f3)]) :: (ok, Own.ArrC Z .long [(jJ 0), (jJ 0), (jJ 0), (jJ 0)]) :: (op, OPo Z (.ref ra) (.ref rb) (iI (-1)) (iI (-1)) (.ref rt) (iI 4) (iI 0)) :: (ra, Own.ArrC Z .long [(jJ 0), (jJ 1), (jJ 2), (jJ 3), (jJ 0), (jJ 0), (jJ 0), (jJ 0), (jJ 0), (jJ 0), (jJ 0), (jJ 0), (jJ 0), (jJ 0), (jJ 0), (jJ 0)]) :: (rb, Own.ArrC Z .long [(jJ 0), (jJ 1), (jJ 2), (jJ 3), (jJ 0), (jJ 0), (jJ 0), (jJ 0), (jJ 0), (jJ 0), (jJ 0), (jJ 0), (jJ 0), (jJ 0), (jJ 0), (jJ 0)]) :: (rt, Own.ArrC Z (.object "java/math/BigDecimal") [.null, .null, .null, .null, .null, .null, .null, .null, .null, .null, .null, .null, .null, .null, .null, .null]) :: fr) := O0.pick 3 rfl
  have O5 : Own.Owns n0 h0 ((of', Own.ArrC Z .int [(.int f0), (.int f1), (.int f2), (.int f3)]) :: (ol, Own.ArrC Z .int [(iI 0), (iI 0), (iI 0), (iI 0)]) :: (o0, WEo Z (.ref op) (.ref oc) (.ref of') (.ref ol) (.ref ok) (iI 0) (iI 4) (iI 0) (iI 0)) :: (oc, Own.ArrC Z .int [(iI 1), (iI 1), (iI 1), (iI 1)]) :: (ok, Own.ArrC Z .long [(jJ 0), (jJ 0), (jJ 0), (jJ 0)]) :: (op, OPo Z (.ref ra) (.ref rb) (iI (-1)) (iI (-1)) (.ref rt) (iI 4) (iI 0)) :: (ra, Own.ArrC Z .long [(jJ 0), (jJ 1), (jJ 2), (jJ 3), (jJ 0), (jJ 0), (jJ 0), (jJ 0), (jJ 0), (jJ 0), (jJ 0), (jJ 0), (jJ 0), (jJ 0), (jJ 0), (jJ 0)]) :: (rb, Own.ArrC Z .long [(jJ 0), (jJ 1), (jJ 2), (jJ 3), (jJ 0), (jJ 0), (jJ 0), (jJ 0), (jJ 0), (jJ 0), (jJ 0), (jJ 0), (jJ 0), (jJ 0), (jJ 0), (jJ 0)]) :: (rt, Own.ArrC Z (.object "java/math/BigDecimal") [.null, .null, .null, .null, .null, .null, .null, .null, .null, .null, .null, .null, .null, .null, .null, .null]) :: fr) := O4.pick 3 rfl
  have O6 : Own.Owns n0 h0 ((oc, Own.ArrC Z .int [(iI 1), (iI 1), (iI 1), (iI 1)]) :: (of', Own.ArrC Z .int [(.int f0), (.int f1), (.int f2), (.int f3)]) :: (ol, Own.ArrC Z .int [(iI 0), (iI 0), (iI 0), (iI 0)]) :: (o0, WEo Z (.ref op) (.ref oc) (.ref of') (.ref ol) (.ref ok) (iI 0) (iI 4) (iI 0) (iI 0)) :: (ok, Own.ArrC Z .long [(jJ 0), (jJ 0), (jJ 0), (jJ 0)]) :: (op, OPo Z (.ref ra) (.ref rb) (iI (-1)) (iI (-1)) (.ref rt) (iI 4) (iI 0)) :: (ra, Own.ArrC Z .long [(jJ 0), (jJ 1), (jJ 2), (jJ 3), (jJ 0), (jJ 0), (jJ 0), (jJ 0), (jJ 0), (jJ 0), (jJ 0), (jJ 0), (jJ 0), (jJ 0), (jJ 0), (jJ 0)]) :: (rb, Own.ArrC Z .long [(jJ 0), (jJ 1), (jJ 2), (jJ 3), (jJ 0), (jJ 0), (jJ 0), (jJ 0), (jJ 0), (jJ 0), (jJ 0), (jJ 0), (jJ 0), (jJ 0), (jJ 0), (jJ 0)]) :: (rt, Own.ArrC Z (.object "java/math/BigDecimal") [.null, .null, .null, .null, .null, .null, .null, .null, .null, .null, .null, .null, .null, .null, .null, .null]) :: fr) := O5.pick 3 rfl
  have O7 : Own.Owns n0 h0 ((o0, WEo Z (.ref op) (.ref oc) (.ref of') (.ref ol) (.ref ok) (iI 0) (iI 4) (iI 0) (iI 0)) :: (oc, Own.ArrC Z .int [(iI 1), (iI 1), (iI 1), (iI 1)]) :: (of', Own.ArrC Z .int [(.int f0), (.int f1), (.int f2), (.int f3)]) :: (ol, Own.ArrC Z .int [(iI 0), (iI 0), (iI 0), (iI 0)]) :: (ok, Own.ArrC Z .long [(jJ 0), (jJ 0), (jJ 0), (jJ 0)]) :: (op, OPo Z (.ref ra) (.ref rb) (iI (-1)) (iI (-1)) (.ref rt) (iI 4) (iI 0)) :: (ra, Own.ArrC Z .long [(jJ 0), (jJ 1), (jJ 2), (jJ 3), (jJ 0), (jJ 0), (jJ 0), (jJ 0), (jJ 0), (jJ 0), (jJ 0), (jJ 0), (jJ 0), (jJ 0), (jJ 0), (jJ 0)]) :: (rb, Own.ArrC Z .long [(jJ 0), (jJ 1), (jJ 2), (jJ 3), (jJ 0), (jJ 0), (jJ 0), (jJ 0), (jJ 0), (jJ 0), (jJ 0), (jJ 0), (jJ 0), (jJ 0), (jJ 0), (jJ 0)]) :: (rt, Own.ArrC Z (.object "java/math/BigDecimal") [.null, .null, .null, .null, .null, .null, .null, .null, .null, .null, .null, .null, .null, .null, .null, .null]) :: fr) := O6.pick 3 rfl
  refine Own.callP hx hZ hown (O7.exa (i := 0) rfl) (hw _ (wm 51 rfl)) (hw _ (wm 52 rfl)) (hw _ (wm 2 rfl)) (hw _ (wm 53 rfl)) (hw _ (wm 3 rfl)) (hw _ (wm 54 rfl)) (by decide) pd3 (argsL := [(.int p3)]) (rest := []) rfl (W := 0) (Nat.le_of_eq rfl) (rm := ({ frames := 2, cells := 3, slots := 24, locals := 33 } : Room)) (by decide) (by decide) (by decide) (by decide) (k' := 3) (n' := 24) rfl rfl (by rw [hml]; rfl) [(.int p3), (.ref o0)] rfl (hb hby d5_3) (pc' := 6) rfl (rm6_4 l Z a0 hw o0 p3 h0 n0 op oc of' ol ok f0 f1 f2 f3 ((ok, Own.ArrC Z .long [(jJ 0), (jJ 0), (jJ 0), (jJ 0)]) :: (op, OPo Z (.ref ra) (.ref rb) (iI (-1)) (iI (-1)) (.ref rt) (iI 4) (iI 0)) :: (ra, Own.ArrC Z .long [(jJ 0), (jJ 1), (jJ 2), (jJ 3), (jJ 0), (jJ 0), (jJ 0), (jJ 0), (jJ 0), (jJ 0), (jJ 0), (jJ 0), (jJ 0), (jJ 0), (jJ 0), (jJ 0)]) :: (rb, Own.ArrC Z .long [(jJ 0), (jJ 1), (jJ 2), (jJ 3), (jJ 0), (jJ 0), (jJ 0), (jJ 0), (jJ 0), (jJ 0), (jJ 0), (jJ 0), (jJ 0), (jJ 0), (jJ 0), (jJ 0)]) :: (rt, Own.ArrC Z (.object "java/math/BigDecimal") [.null, .null, .null, .null, .null, .null, .null, .null, .null, .null, .null, .null, .null, .null, .null, .null]) :: fr) O7) ?_
  rintro _ h8 ⟨oc1, of2, ol3, rfl, O9⟩
  show Own.Goes _ _ _ _ _ _ _ _ _ _ _ _ _ _ _ _ _ (mkF m 6 #[.val (.ref o0), .val (.long (4 : Int64)), .second, .val .null, .val (.int p3)] [])
  refine Own.aloadN hx (.ref o0) (hb hby d5_6) rfl rfl rfl ?_
  refine Own.getfield hx hZ hown O9 0 0 rfl rfl (hw _ (wm 33 rfl)) (hb hby d5_7) rfl ?_
  refine Own.lloadN hx (4 : Int64) (hb hby d5_10) rfl rfl ?_
  refine Own.aloadN hx .null (hb hby d5_11) rfl rfl rfl ?_
  have O10 : Own.Owns n0 h8 ((rt, Own.ArrC Z (.object "java/math/BigDecimal") [.null, .null, .null, .null, .null, .null, .null, .null, .null, .null, .null, .null, .null, .null, .null, .null]) :: (o0, WEo Z (.ref op) (.ref oc1) (.ref of2) (.ref ol3) (.ref ok) (iI 0) (iI 5) (iI 0) (iI 0)) :: (oc1, Own.ArrC Z .int [(iI 1), (iI 1), (iI 1), (iI 1), (iI 1), (iI 0), (iI 0), (iI 0)]) :: (of2, Own.ArrC Z .int [(.int f0), (.int f1), (.int f2), (.int f3), (.int p3), (iI 0), (iI 0), (iI 0)]) :: (ol3, Own.ArrC Z .int [(iI 0), (iI 0), (iI 0), (iI 0), (iI 0), (iI 0), (iI 0), (iI 0)]) :: (ok, Own.ArrC Z .long [(jJ 0), (jJ 0), (jJ 0), (jJ 0)]) :: (op, OPo Z (.ref ra) (.ref rb) (iI (-1)) (iI (-1)) (.ref rt) (iI 4) (iI 0)) :: (ra, Own.ArrC Z .long [(jJ 0), (jJ 1), (jJ 2), (jJ 3), (jJ 0), (jJ 0), (jJ 0), (jJ 0), (jJ 0), (jJ 0), (jJ 0), (jJ 0), (jJ 0), (jJ 0), (jJ 0), (jJ 0)]) :: (rb, Own.ArrC Z .long [(jJ 0), (jJ 1), (jJ 2), (jJ 3), (jJ 0), (jJ 0), (jJ 0), (jJ 0), (jJ 0), (jJ 0), (jJ 0), (jJ 0), (jJ 0), (jJ 0), (jJ 0), (jJ 0)]) :: fr) := O9.pick 8 rfl
  have O11 : Own.Owns n0 h8 ((rb, Own.ArrC Z .long [(jJ 0), (jJ 1), (jJ 2), (jJ 3), (jJ 0), (jJ 0), (jJ 0), (jJ 0), (jJ 0), (jJ 0), (jJ 0), (jJ 0), (jJ 0), (jJ 0), (jJ 0), (jJ 0)]) :: (rt, Own.ArrC Z (.object "java/math/BigDecimal") [.null, .null, .null, .null, .null, .null, .null, .null, .null, .null, .null, .null, .null, .null, .null, .null]) :: (o0, WEo Z (.ref op) (.ref oc1) (.ref of2) (.ref ol3) (.ref ok) (iI 0) (iI 5) (iI 0) (iI 0)) :: (oc1, Own.ArrC Z .int [(iI 1), (iI 1), (iI 1), (iI 1), (iI 1), (iI 0), (iI 0), (iI 0)]) :: (of2, Own.ArrC Z .int [(.int f0), (.int f1), (.int f2), (.int f3), (.int p3), (iI 0), (iI 0), (iI 0)]) :: (ol3, Own.ArrC Z .int [(iI 0), (iI 0), (iI 0), (iI 0), (iI 0), (iI 0), (iI 0), (iI 0)]) :: (ok, Own.ArrC Z .long [(jJ 0), (jJ 0), (jJ 0), (jJ 0)]) :: (op, OPo Z (.ref ra) (.ref rb) (iI (-1)) (iI (-1)) (.ref rt) (iI 4) (iI 0)) :: (ra, Own.ArrC Z .long [(jJ 0), (jJ 1), (jJ 2), (jJ 3), (jJ 0), (jJ 0), (jJ 0), (jJ 0), (jJ 0), (jJ 0), (jJ 0), (jJ 0), (jJ 0), (jJ 0), (jJ 0), (jJ 0)]) :: fr) := O10.pick 8 rfl
  have O12 : Own.Owns n0 h8 ((ra, Own.ArrC Z .long [(jJ 0), (jJ 1), (jJ 2), (jJ 3), (jJ 0), (jJ 0), (jJ 0), (jJ 0), (jJ 0), (jJ 0), (jJ 0), (jJ 0), (jJ 0), (jJ 0), (jJ 0), (jJ 0)]) :: (rb, Own.ArrC Z .long [(jJ 0), (jJ 1), (jJ 2), (jJ 3), (jJ 0), (jJ 0), (jJ 0), (jJ 0), (jJ 0), (jJ 0), (jJ 0), (jJ 0), (jJ 0), (jJ 0), (jJ 0), (jJ 0)]) :: (rt, Own.ArrC Z (.object "java/math/BigDecimal") [.null, .null, .null, .null, .null, .null, .null, .null, .null, .null, .null, .null, .null, .null, .null, .null]) :: (o0, WEo Z (.ref op) (.ref oc1) (.ref of2) (.ref ol3) (.ref ok) (iI 0) (iI 5) (iI 0) (iI 0)) :: (oc1, Own.ArrC Z .int [(iI 1), (iI 1), (iI 1), (iI 1), (iI 1), (iI 0), (iI 0), (iI 0)]) :: (of2, Own.ArrC Z .int [(.int f0), (.int f1), (.int f2), (.int f3), (.int p3), (iI 0), (iI 0), (iI 0)]) :: (ol3, Own.ArrC Z .int [(iI 0), (iI 0), (iI 0), (iI 0), (iI 0), (iI 0), (iI 0), (iI 0)]) :: (ok, Own.ArrC Z .long [(jJ 0), (jJ 0), (jJ 0), (jJ 0)]) :: (op, OPo Z (.ref ra) (.ref rb) (iI (-1)) (iI (-1)) (.ref rt) (iI 4) (iI 0)) :: fr) := O11.pick 8 rfl
  have O13 : Own.Owns n0 h8 ((op, OPo Z (.ref ra) (.ref rb) (iI (-1)) (iI (-1)) (.ref rt) (iI 4) (iI 0)) :: (ra, Own.ArrC Z .long [(jJ 0), (jJ 1), (jJ 2), (jJ 3), (jJ 0), (jJ 0), (jJ 0), (jJ 0), (jJ 0), (jJ 0), (jJ 0), (jJ 0), (jJ 0), (jJ 0), (jJ 0), (jJ 0)]) :: (rb, Own.ArrC Z .long [(jJ 0), (jJ 1), (jJ 2), (jJ 3), (jJ 0), (jJ 0), (jJ 0), (jJ 0), (jJ 0), (jJ 0), (jJ 0), (jJ 0), (jJ 0), (jJ 0), (jJ 0), (jJ 0)]) :: (rt, Own.ArrC Z (.object "java/math/BigDecimal") [.null, .null, .null, .null, .null, .null, .null, .null, .null, .null, .null, .null, .null, .null, .null, .null]) :: (o0, WEo Z (.ref op) (.ref oc1) (.ref of2) (.ref ol3) (.ref ok) (iI 0) (iI 5) (iI 0) (iI 0)) :: (oc1, Own.ArrC Z .int [(iI 1), (iI 1), (iI 1), (iI 1), (iI 1), (iI 0), (iI 0), (iI 0)]) :: (of2, Own.ArrC Z .int [(.int f0), (.int f1), (.int f2), (.int f3), (.int p3), (iI 0), (iI 0), (iI 0)]) :: (ol3, Own.ArrC Z .int [(iI 0), (iI 0), (iI 0), (iI 0), (iI 0), (iI 0), (iI 0), (iI 0)]) :: (ok, Own.ArrC Z .long [(jJ 0), (jJ 0), (jJ 0), (jJ 0)]) :: fr) := O12.pick 8 rfl
  refine Own.callV hx hZ hown (O13.exa (i := 0) rfl) (hw _ (wm 57 rfl)) (hw _ (wm 58 rfl)) (hw _ (wm 60 rfl)) (hw _ (wm 59 rfl)) (hw _ (wm 12 rfl)) (hw _ (wm 61 rfl)) (by decide) pd4 (argsL := [(.long (4 : Int64)), .null]) (rest := []) rfl (W := 0) (Nat.le_of_eq rfl) (rm := ({ frames := 1, cells := 0, slots := 0, locals := 12 } : Room)) (by decide) (by decide) (by decide) (by decide) (k' := 3) (n' := 24) rfl rfl (by rw [hml]; rfl) [.null, (.long (4 : Int64)), (.ref op)] rfl (hb hby d5_12) (pc' := 15) rfl (rm7_4 l Z a0 hw op h8 n0 ra rb rt ((o0, WEo Z (.ref op) (.ref oc1) (.ref of2) (.ref ol3) (.ref ok) (iI 0) (iI 5) (iI 0) (iI 0)) :: (oc1, Own.ArrC Z .int [(iI 1), (iI 1), (iI 1), (iI 1), (iI 1), (iI 0), (iI 0), (iI 0)]) :: (of2, Own.ArrC Z .int [(.int f0), (.int f1), (.int f2), (.int f3), (.int p3), (iI 0), (iI 0), (iI 0)]) :: (ol3, Own.ArrC Z .int [(iI 0), (iI 0), (iI 0), (iI 0), (iI 0), (iI 0), (iI 0), (iI 0)]) :: (ok, Own.ArrC Z .long [(jJ 0), (jJ 0), (jJ 0), (jJ 0)]) :: fr) O13) ?_
  rintro _ h14 ⟨rfl, O15⟩
  show Own.Goes _ _ _ _ _ _ _ _ _ _ _ _ _ _ _ _ _ (mkF m 15 #[.val (.ref o0), .val (.long (4 : Int64)), .second, .val .null, .val (.int p3)] [])
  have O16 : Own.Owns n0 h14 ((rt, Own.ArrC Z (.object "java/math/BigDecimal") [.null, .null, .null, .null, .null, .null, .null, .null, .null, .null, .null, .null, .null, .null, .null, .null]) :: (op, OPo Z (.ref ra) (.ref rb) (iI (-1)) (iI (-1)) (.ref rt) (iI 5) (iI 0)) :: (ra, Own.ArrC Z .long [(jJ 0), (jJ 1), (jJ 2), (jJ 3), (jJ 4), (jJ 0), (jJ 0), (jJ 0), (jJ 0), (jJ 0), (jJ 0), (jJ 0), (jJ 0), (jJ 0), (jJ 0), (jJ 0)]) :: (rb, Own.ArrC Z .long [(jJ 0), (jJ 1), (jJ 2), (jJ 3), (jJ 4), (jJ 0), (jJ 0), (jJ 0), (jJ 0), (jJ 0), (jJ 0), (jJ 0), (jJ 0), (jJ 0), (jJ 0), (jJ 0)]) :: (o0, WEo Z (.ref op) (.ref oc1) (.ref of2) (.ref ol3) (.ref ok) (iI 0) (iI 5) (iI 0) (iI 0)) :: (oc1, Own.ArrC Z .int [(iI 1), (iI 1), (iI 1), (iI 1), (iI 1), (iI 0), (iI 0), (iI 0)]) :: (of2, Own.ArrC Z .int [(.int f0), (.int f1), (.int f2), (.int f3), (.int p3), (iI 0), (iI 0), (iI 0)]) :: (ol3, Own.ArrC Z .int [(iI 0), (iI 0), (iI 0), (iI 0), (iI 0), (iI 0), (iI 0), (iI 0)]) :: (ok, Own.ArrC Z .long [(jJ 0), (jJ 0), (jJ 0), (jJ 0)]) :: fr) := O15.pick 3 rfl
  have O17 : Own.Owns n0 h14 ((rb, Own.ArrC Z .long [(jJ 0), (jJ 1), (jJ 2), (jJ 3), (jJ 4), (jJ 0), (jJ 0), (jJ 0), (jJ 0), (jJ 0), (jJ 0), (jJ 0), (jJ 0), (jJ 0), (jJ 0), (jJ 0)]) :: (rt, Own.ArrC Z (.object "java/math/BigDecimal") [.null, .null, .null, .null, .null, .null, .null, .null, .null, .null, .null, .null, .null, .null, .null, .null]) :: (op, OPo Z (.ref ra) (.ref rb) (iI (-1)) (iI (-1)) (.ref rt) (iI 5) (iI 0)) :: (ra, Own.ArrC Z .long [(jJ 0), (jJ 1), (jJ 2), (jJ 3), (jJ 4), (jJ 0), (jJ 0), (jJ 0), (jJ 0), (jJ 0), (jJ 0), (jJ 0), (jJ 0), (jJ 0), (jJ 0), (jJ 0)]) :: (o0, WEo Z (.ref op) (.ref oc1) (.ref of2) (.ref ol3) (.ref ok) (iI 0) (iI 5) (iI 0) (iI 0)) :: (oc1, Own.ArrC Z .int [(iI 1), (iI 1), (iI 1), (iI 1), (iI 1), (iI 0), (iI 0), (iI 0)]) :: (of2, Own.ArrC Z .int [(.int f0), (.int f1), (.int f2), (.int f3), (.int p3), (iI 0), (iI 0), (iI 0)]) :: (ol3, Own.ArrC Z .int [(iI 0), (iI 0), (iI 0), (iI 0), (iI 0), (iI 0), (iI 0), (iI 0)]) :: (ok, Own.ArrC Z .long [(jJ 0), (jJ 0), (jJ 0), (jJ 0)]) :: fr) := O16.pick 3 rfl
  have O18 : Own.Owns n0 h14 ((ra, Own.ArrC Z .long [(jJ 0), (jJ 1), (jJ 2), (jJ 3), (jJ 4), (jJ 0), (jJ 0), (jJ 0), (jJ 0), (jJ 0), (jJ 0), (jJ 0), (jJ 0), (jJ 0), (jJ 0), (jJ 0)]) :: (rb, Own.ArrC Z .long [(jJ 0), (jJ 1), (jJ 2), (jJ 3), (jJ 4), (jJ 0), (jJ 0), (jJ 0), (jJ 0), (jJ 0), (jJ 0), (jJ 0), (jJ 0), (jJ 0), (jJ 0), (jJ 0)]) :: (rt, Own.ArrC Z (.object "java/math/BigDecimal") [.null, .null, .null, .null, .null, .null, .null, .null, .null, .null, .null, .null, .null, .null, .null, .null]) :: (op, OPo Z (.ref ra) (.ref rb) (iI (-1)) (iI (-1)) (.ref rt) (iI 5) (iI 0)) :: (o0, WEo Z (.ref op) (.ref oc1) (.ref of2) (.ref ol3) (.ref ok) (iI 0) (iI 5) (iI 0) (iI 0)) :: (oc1, Own.ArrC Z .int [(iI 1), (iI 1), (iI 1), (iI 1), (iI 1), (iI 0), (iI 0), (iI 0)]) :: (of2, Own.ArrC Z .int [(.int f0), (.int f1), (.int f2), (.int f3), (.int p3), (iI 0), (iI 0), (iI 0)]) :: (ol3, Own.ArrC Z .int [(iI 0), (iI 0), (iI 0), (iI 0), (iI 0), (iI 0), (iI 0), (iI 0)]) :: (ok, Own.ArrC Z .long [(jJ 0), (jJ 0), (jJ 0), (jJ 0)]) :: fr) := O17.pick 3 rfl
  have O19 : Own.Owns n0 h14 ((op, OPo Z (.ref ra) (.ref rb) (iI (-1)) (iI (-1)) (.ref rt) (iI 5) (iI 0)) :: (ra, Own.ArrC Z .long [(jJ 0), (jJ 1), (jJ 2), (jJ 3), (jJ 4), (jJ 0), (jJ 0), (jJ 0), (jJ 0), (jJ 0), (jJ 0), (jJ 0), (jJ 0), (jJ 0), (jJ 0), (jJ 0)]) :: (rb, Own.ArrC Z .long [(jJ 0), (jJ 1), (jJ 2), (jJ 3), (jJ 4), (jJ 0), (jJ 0), (jJ 0), (jJ 0), (jJ 0), (jJ 0), (jJ 0), (jJ 0), (jJ 0), (jJ 0), (jJ 0)]) :: (rt, Own.ArrC Z (.object "java/math/BigDecimal") [.null, .null, .null, .null, .null, .null, .null, .null, .null, .null, .null, .null, .null, .null, .null, .null]) :: (o0, WEo Z (.ref op) (.ref oc1) (.ref of2) (.ref ol3) (.ref ok) (iI 0) (iI 5) (iI 0) (iI 0)) :: (oc1, Own.ArrC Z .int [(iI 1), (iI 1), (iI 1), (iI 1), (iI 1), (iI 0), (iI 0), (iI 0)]) :: (of2, Own.ArrC Z .int [(.int f0), (.int f1), (.int f2), (.int f3), (.int p3), (iI 0), (iI 0), (iI 0)]) :: (ol3, Own.ArrC Z .int [(iI 0), (iI 0), (iI 0), (iI 0), (iI 0), (iI 0), (iI 0), (iI 0)]) :: (ok, Own.ArrC Z .long [(jJ 0), (jJ 0), (jJ 0), (jJ 0)]) :: fr) := O18.pick 3 rfl
  have O20 : Own.Owns n0 h14 ((ok, Own.ArrC Z .long [(jJ 0), (jJ 0), (jJ 0), (jJ 0)]) :: (op, OPo Z (.ref ra) (.ref rb) (iI (-1)) (iI (-1)) (.ref rt) (iI 5) (iI 0)) :: (ra, Own.ArrC Z .long [(jJ 0), (jJ 1), (jJ 2), (jJ 3), (jJ 4), (jJ 0), (jJ 0), (jJ 0), (jJ 0), (jJ 0), (jJ 0), (jJ 0), (jJ 0), (jJ 0), (jJ 0), (jJ 0)]) :: (rb, Own.ArrC Z .long [(jJ 0), (jJ 1), (jJ 2), (jJ 3), (jJ 4), (jJ 0), (jJ 0), (jJ 0), (jJ 0), (jJ 0), (jJ 0), (jJ 0), (jJ 0), (jJ 0), (jJ 0), (jJ 0)]) :: (rt, Own.ArrC Z (.object "java/math/BigDecimal") [.null, .null, .null, .null, .null, .null, .null, .null, .null, .null, .null, .null, .null, .null, .null, .null]) :: (o0, WEo Z (.ref op) (.ref oc1) (.ref of2) (.ref ol3) (.ref ok) (iI 0) (iI 5) (iI 0) (iI 0)) :: (oc1, Own.ArrC Z .int [(iI 1), (iI 1), (iI 1), (iI 1), (iI 1), (iI 0), (iI 0), (iI 0)]) :: (of2, Own.ArrC Z .int [(.int f0), (.int f1), (.int f2), (.int f3), (.int p3), (iI 0), (iI 0), (iI 0)]) :: (ol3, Own.ArrC Z .int [(iI 0), (iI 0), (iI 0), (iI 0), (iI 0), (iI 0), (iI 0), (iI 0)]) :: fr) := O19.pick 8 rfl
  have O21 : Own.Owns n0 h14 ((ol3, Own.ArrC Z .int [(iI 0), (iI 0), (iI 0), (iI 0), (iI 0), (iI 0), (iI 0), (iI 0)]) :: (ok, Own.ArrC Z .long [(jJ 0), (jJ 0), (jJ 0), (jJ 0)]) :: (op, OPo Z (.ref ra) (.ref rb) (iI (-1)) (iI (-1)) (.ref rt) (iI 5) (iI 0)) :: (ra, Own.ArrC Z .long [(jJ 0), (jJ 1), (jJ 2), (jJ 3), (jJ 4), (jJ 0), (jJ 0), (jJ 0), (jJ 0), (jJ 0), (jJ 0), (jJ 0), (jJ 0), (jJ 0), (jJ 0), (jJ 0)]) :: (rb, Own.ArrC Z .long [(jJ 0), (jJ 1), (jJ 2), (jJ 3), (jJ 4), (jJ 0), (jJ 0), (jJ 0), (jJ 0), (jJ 0), (jJ 0), (jJ 0), (jJ 0), (jJ 0), (jJ 0), (jJ 0)]) :: (rt, Own.ArrC Z (.object "java/math/BigDecimal") [.null, .null, .null, .null, .null, .null, .null, .null, .null, .null, .null, .null, .null, .null, .null, .null]) :: (o0, WEo Z (.ref op) (.ref oc1) (.ref of2) (.ref ol3) (.ref ok) (iI 0) (iI 5) (iI 0) (iI 0)) :: (oc1, Own.ArrC Z .int [(iI 1), (iI 1), (iI 1), (iI 1), (iI 1), (iI 0), (iI 0), (iI 0)]) :: (of2, Own.ArrC Z .int [(.int f0), (.int f1), (.int f2), (.int f3), (.int p3), (iI 0), (iI 0), (iI 0)]) :: fr) := O20.pick 8 rfl
  have O22 : Own.Owns n0 h14 ((of2, Own.ArrC Z .int [(.int f0), (.int f1), (.int f2), (.int f3), (.int p3), (iI 0), (iI 0), (iI 0)]) :: (ol3, Own.ArrC Z .int [(iI 0), (iI 0), (iI 0), (iI 0), (iI 0), (iI 0), (iI 0), (iI 0)]) :: (ok, Own.ArrC Z .long [(jJ 0), (jJ 0), (jJ 0), (jJ 0)]) :: (op, OPo Z (.ref ra) (.ref rb) (iI (-1)) (iI (-1)) (.ref rt) (iI 5) (iI 0)) :: (ra, Own.ArrC Z .long [(jJ 0), (jJ 1), (jJ 2), (jJ 3), (jJ 4), (jJ 0), (jJ 0), (jJ 0), (jJ 0), (jJ 0), (jJ 0), (jJ 0), (jJ 0), (jJ 0), (jJ 0), (jJ 0)]) :: (rb, Own.ArrC Z .long [(jJ 0), (jJ 1), (jJ 2), (jJ 3), (jJ 4), (jJ 0), (jJ 0), (jJ 0), (jJ 0), (jJ 0), (jJ 0), (jJ 0), (jJ 0), (jJ 0), (jJ 0), (jJ 0)]) :: (rt, Own.ArrC Z (.object "java/math/BigDecimal") [.null, .null, .null, .null, .null, .null, .null, .null, .null, .null, .null, .null, .null, .null, .null, .null]) :: (o0, WEo Z (.ref op) (.ref oc1) (.ref of2) (.ref ol3) (.ref ok) (iI 0) (iI 5) (iI 0) (iI 0)) :: (oc1, Own.ArrC Z .int [(iI 1), (iI 1), (iI 1), (iI 1), (iI 1), (iI 0), (iI 0), (iI 0)]) :: fr) := O21.pick 8 rfl
  have O23 : Own.Owns n0 h14 ((oc1, Own.ArrC Z .int [(iI 1), (iI 1), (iI 1), (iI 1), (iI 1), (iI 0), (iI 0), (iI 0)]) :: (of2, Own.ArrC Z .int [(.int f0), (.int f1), (.int f2), (.int f3), (.int p3), (iI 0), (iI 0), (iI 0)]) :: (ol3, Own.ArrC Z .int [(iI 0), (iI 0), (iI 0), (iI 0), (iI 0), (iI 0), (iI 0), (iI 0)]) :: (ok, Own.ArrC Z .long [(jJ 0), (jJ 0), (jJ 0), (jJ 0)]) :: (op, OPo Z (.ref ra) (.ref rb) (iI (-1)) (iI (-1)) (.ref rt) (iI 5) (iI 0)) :: (ra, Own.ArrC Z .long [(jJ 0), (jJ 1), (jJ 2), (jJ 3), (jJ 4), (jJ 0), (jJ 0), (jJ 0), (jJ 0), (jJ 0), (jJ 0), (jJ 0), (jJ 0), (jJ 0), (jJ 0), (jJ 0)]) :: (rb, Own.ArrC Z .long [(jJ 0), (jJ 1), (jJ 2), (jJ 3), (jJ 4), (jJ 0), (jJ 0), (jJ 0), (jJ 0), (jJ 0), (jJ 0), (jJ 0), (jJ 0), (jJ 0), (jJ 0), (jJ 0)]) :: (rt, Own.ArrC Z (.object "java/math/BigDecimal") [.null, .null, .null, .null, .null, .null, .null, .null, .null, .null, .null, .null, .null, .null, .null, .null]) :: (o0, WEo Z (.ref op) (.ref oc1) (.ref of2) (.ref ol3) (.ref ok) (iI 0) (iI 5) (iI 0) (iI 0)) :: fr) := O22.pick 8 rfl
  have O24 : Own.Owns n0 h14 ((o0, WEo Z (.ref op) (.ref oc1) (.ref of2) (.ref ol3) (.ref ok) (iI 0) (iI 5) (iI 0) (iI 0)) :: (oc1, Own.ArrC Z .int [(iI 1), (iI 1), (iI 1), (iI 1), (iI 1), (iI 0), (iI 0), (iI 0)]) :: (of2, Own.ArrC Z .int [(.int f0), (.int f1), (.int f2), (.int f3), (.int p3), (iI 0), (iI 0), (iI 0)]) :: (ol3, Own.ArrC Z .int [(iI 0), (iI 0), (iI 0), (iI 0), (iI 0), (iI 0), (iI 0), (iI 0)]) :: (ok, Own.ArrC Z .long [(jJ 0), (jJ 0), (jJ 0), (jJ 0)]) :: (op, OPo Z (.ref ra) (.ref rb) (iI (-1)) (iI (-1)) (.ref rt) (iI 5) (iI 0)) :: (ra, Own.ArrC Z .long [(jJ 0), (jJ 1), (jJ 2), (jJ 3), (jJ 4), (jJ 0), (jJ 0), (jJ 0), (jJ 0), (jJ 0), (jJ 0), (jJ 0), (jJ 0), (jJ 0), (jJ 0), (jJ 0)]) :: (rb, Own.ArrC Z .long [(jJ 0), (jJ 1), (jJ 2), (jJ 3), (jJ 4), (jJ 0), (jJ 0), (jJ 0), (jJ 0), (jJ 0), (jJ 0), (jJ 0), (jJ 0), (jJ 0), (jJ 0), (jJ 0)]) :: (rt, Own.ArrC Z (.object "java/math/BigDecimal") [.null, .null, .null, .null, .null, .null, .null, .null, .null, .null, .null, .null, .null, .null, .null, .null]) :: fr) := O23.pick 8 rfl
  exact Own.retV hx hret hlk (hb hby d5_15) (by decide) (by decide) ⟨oc1, of2, ol3, rfl, O24⟩

theorem d12_0 : decode prog_144_method_21_code 0 = .ok (.aload_n 0, 1) := by decide +kernel
theorem d12_1 : decode prog_144_method_21_code 1 = .ok (.iconst 0, 1) := by decide +kernel
theorem d12_2 : decode prog_144_method_21_code 2 = .ok (.putfield 62, 3) := by decide +kernel
theorem d12_5 : decode prog_144_method_21_code 5 = .ok (.aload_n 0, 1) := by decide +kernel
theorem d12_6 : decode prog_144_method_21_code 6 = .ok (.iconst 0, 1) := by decide +kernel
theorem d12_7 : decode prog_144_method_21_code 7 = .ok (.putfield 59, 3) := by decide +kernel
theorem d12_10 : decode prog_144_method_21_code 10 = .ok (.return_, 1) := by decide +kernel
theorem pn9 : plainFor (⟨"com/example/tracewarden/tracewarden/monitor/WindowEntries", "forgetFound", "()V"⟩ : MethodName) = true := by first | exact plainFor_of_name (by simp [plainName, overriddenIn]; done) | decide +kernel
theorem ef12 (m : MethodId) (x0 : Addr) : entryFrame m #[(.ref x0)] 1 = mkF m 0 #[.val (.ref x0)] [] := by first | (simp [entryFrame, mkF, argsToLocals, Value.category]; done) | rfl
set_option maxRecDepth 65536 in
set_option maxHeartbeats 40000000 in
theorem rm12 (l : Launch) (Z : State) (a0 : Array Value) (hw : ∀ d ∈ tables_1, d.before a0 Z = true) (o0 : Addr) (h0 : Heap) (n0 : Nat) (op oc of' ol ok : Addr) (js a' b' : Int32) (fr : List (Addr × (Cell → Prop))) (O0 : Own.Owns n0 h0 ((o0, WEo Z (.ref op) (.ref oc) (.ref of') (.ref ol) (.ref ok) (iI 0) (.int js) (.int a') (.int b')) :: fr))  : Own.Does l (⟨"com/example/tracewarden/tracewarden/monitor/WindowEntries", "forgetFound", "()V"⟩ : MethodName) prog_144_method_21_code 1 none [] ({ frames := 0, cells := 0, slots := 0, locals := 0 } : Room) Z #[(.ref o0)] h0 n0 (fun v h => v = none ∧ Own.Owns n0 h ((o0, WEo Z (.ref op) (.ref oc) (.ref of') (.ref ol) (.ref ok) (iI 0) (.int js) (iI 0) (iI 0)) :: fr)) := by
  refine Own.doesOf pn9 ?_
  intro p e s m below meth c hx hby hml hret hlk hown hnm hZ
  refine Own.Goes.cast (ef12 m o0) ?_
  refine Own.aloadN hx (.ref o0) (hb hby d12_0) rfl rfl rfl ?_
  refine Own.iconst hx (0 : Int32) (hb hby d12_1) rfl (by decide) ?_
  refine Own.putfield hx hZ hown O0 0 7 rfl rfl (hw _ (wm 94 rfl)) (Or.inl (hw _ (wm 95 rfl))) (hw _ (wm 2 rfl)) (ty := .int) (by decide) rfl rfl ((o0, WEo Z (.ref op) (.ref oc) (.ref of') (.ref ol) (.ref ok) (iI 0) (.int js) (iI 0) (.int b')) :: fr) rfl (hb hby d12_2) rfl ?_
  intro h1 O2
  refine Own.aloadN hx (.ref o0) (hb hby d12_5) rfl rfl rfl ?_
  refine Own.iconst hx (0 : Int32) (hb hby d12_6) rfl (by decide) ?_
  refine Own.putfield hx hZ hown O2 0 8 rfl rfl (hw _ (wm 96 rfl)) (Or.inl (hw _ (wm 97 rfl))) (hw _ (wm 2 rfl)) (ty := .int) (by decide) rfl rfl ((o0, WEo Z (.ref op) (.ref oc) (.ref of') (.ref ol) (.ref ok) (iI 0) (.int js) (iI 0) (iI 0)) :: fr) rfl (hb hby d12_7) rfl ?_
  intro h3 O4
  exact Own.retV hx hret hlk (hb hby d12_10) (by decide) (by decide) ⟨rfl, O4⟩

theorem d11_0 : decode prog_144_method_20_code 0 = .ok (.aload_n 0, 1) := by decide +kernel
theorem d11_1 : decode prog_144_method_20_code 1 = .ok (.getfield 29, 3) := by decide +kernel
theorem d11_4 : decode prog_144_method_20_code 4 = .ok (.arraylength, 1) := by decide +kernel
theorem d11_5 : decode prog_144_method_20_code 5 = .ok (.aload_n 0, 1) := by decide +kernel
theorem d11_6 : decode prog_144_method_20_code 6 = .ok (.getfield 56, 3) := by decide +kernel
theorem d11_9 : decode prog_144_method_20_code 9 = .ok (.if_icmp .ge 15, 3) := by decide +kernel
theorem d11_12 : decode prog_144_method_20_code 12 = .ok (.aload_n 0, 1) := by decide +kernel
theorem d11_13 : decode prog_144_method_20_code 13 = .ok (.iconst 2, 1) := by decide +kernel
theorem d11_14 : decode prog_144_method_20_code 14 = .ok (.aload_n 0, 1) := by decide +kernel
theorem d11_15 : decode prog_144_method_20_code 15 = .ok (.getfield 56, 3) := by decide +kernel
theorem d11_18 : decode prog_144_method_20_code 18 = .ok (.imul, 1) := by decide +kernel
theorem d11_19 : decode prog_144_method_20_code 19 = .ok (.newarray .long, 2) := by decide +kernel
theorem d11_21 : decode prog_144_method_20_code 21 = .ok (.putfield 29, 3) := by decide +kernel
theorem d11_24 : decode prog_144_method_20_code 24 = .ok (.iconst 0, 1) := by decide +kernel
theorem d11_25 : decode prog_144_method_20_code 25 = .ok (.istore_n 2, 1) := by decide +kernel
theorem d11_26 : decode prog_144_method_20_code 26 = .ok (.iconst 0, 1) := by decide +kernel
theorem d11_27 : decode prog_144_method_20_code 27 = .ok (.istore_n 3, 1) := by decide +kernel
theorem d11_28 : decode prog_144_method_20_code 28 = .ok (.iconst 0, 1) := by decide +kernel
theorem d11_29 : decode prog_144_method_20_code 29 = .ok (.istore 4, 2) := by decide +kernel
theorem d11_31 : decode prog_144_method_20_code 31 = .ok (.iconst 0, 1) := by decide +kernel
theorem d11_32 : decode prog_144_method_20_code 32 = .ok (.istore 5, 2) := by decide +kernel
theorem d11_34 : decode prog_144_method_20_code 34 = .ok (.iconst 0, 1) := by decide +kernel
theorem d11_35 : decode prog_144_method_20_code 35 = .ok (.istore 6, 2) := by decide +kernel
theorem d11_37 : decode prog_144_method_20_code 37 = .ok (.iload 6, 2) := by decide +kernel
theorem d11_39 : decode prog_144_method_20_code 39 = .ok (.aload_n 0, 1) := by decide +kernel
theorem d11_40 : decode prog_144_method_20_code 40 = .ok (.getfield 56, 3) := by decide +kernel
theorem d11_43 : decode prog_144_method_20_code 43 = .ok (.if_icmp .ge 135, 3) := by decide +kernel
theorem d11_46 : decode prog_144_method_20_code 46 = .ok (.aload_n 0, 1) := by decide +kernel
theorem d11_47 : decode prog_144_method_20_code 47 = .ok (.getfield 19, 3) := by decide +kernel
theorem d11_50 : decode prog_144_method_20_code 50 = .ok (.iload 6, 2) := by decide +kernel
theorem d11_52 : decode prog_144_method_20_code 52 = .ok (.iaload, 1) := by decide +kernel
theorem d11_53 : decode prog_144_method_20_code 53 = .ok (.istore 7, 2) := by decide +kernel
theorem d11_55 : decode prog_144_method_20_code 55 = .ok (.aload_n 0, 1) := by decide +kernel
theorem d11_56 : decode prog_144_method_20_code 56 = .ok (.getfield 23, 3) := by decide +kernel
theorem d11_59 : decode prog_144_method_20_code 59 = .ok (.iload 6, 2) := by decide +kernel
theorem d11_61 : decode prog_144_method_20_code 61 = .ok (.iaload, 1) := by decide +kernel
theorem d11_62 : decode prog_144_method_20_code 62 = .ok (.istore 8, 2) := by decide +kernel
theorem d11_64 : decode prog_144_method_20_code 64 = .ok (.iload 8, 2) := by decide +kernel
theorem d11_66 : decode prog_144_method_20_code 66 = .ok (.iload_n 1, 1) := by decide +kernel
theorem d11_67 : decode prog_144_method_20_code 67 = .ok (.if_icmp .ne 9, 3) := by decide +kernel
theorem d11_76 : decode prog_144_method_20_code 76 = .ok (.aload_n 0, 1) := by decide +kernel
theorem d11_77 : decode prog_144_method_20_code 77 = .ok (.getfield 29, 3) := by decide +kernel
theorem d11_80 : decode prog_144_method_20_code 80 = .ok (.iload_n 2, 1) := by decide +kernel
theorem d11_81 : decode prog_144_method_20_code 81 = .ok (.iinc 2 1, 3) := by decide +kernel
theorem d11_84 : decode prog_144_method_20_code 84 = .ok (.iload 4, 2) := by decide +kernel
theorem d11_86 : decode prog_144_method_20_code 86 = .ok (.i2l, 1) := by decide +kernel
theorem d11_87 : decode prog_144_method_20_code 87 = .ok (.bipush 32, 2) := by decide +kernel
theorem d11_89 : decode prog_144_method_20_code 89 = .ok (.lshl, 1) := by decide +kernel
theorem d11_90 : decode prog_144_method_20_code 90 = .ok (.iload 4, 2) := by decide +kernel
theorem d11_92 : decode prog_144_method_20_code 92 = .ok (.iload 7, 2) := by decide +kernel
theorem d11_94 : decode prog_144_method_20_code 94 = .ok (.iadd, 1) := by decide +kernel
theorem d11_95 : decode prog_144_method_20_code 95 = .ok (.iconst 1, 1) := by decide +kernel
theorem d11_96 : decode prog_144_method_20_code 96 = .ok (.isub, 1) := by decide +kernel
theorem d11_97 : decode prog_144_method_20_code 97 = .ok (.i2l, 1) := by decide +kernel
theorem d11_98 : decode prog_144_method_20_code 98 = .ok (.lor, 1) := by decide +kernel
theorem d11_99 : decode prog_144_method_20_code 99 = .ok (.lastore, 1) := by decide +kernel
theorem d11_100 : decode prog_144_method_20_code 100 = .ok (.iload_n 3, 1) := by decide +kernel
theorem d11_101 : decode prog_144_method_20_code 101 = .ok (.ifCond .le 32, 3) := by decide +kernel
theorem d11_104 : decode prog_144_method_20_code 104 = .ok (.aload_n 0, 1) := by decide +kernel
theorem d11_105 : decode prog_144_method_20_code 105 = .ok (.getfield 23, 3) := by decide +kernel
theorem d11_108 : decode prog_144_method_20_code 108 = .ok (.iload_n 3, 1) := by decide +kernel
theorem d11_109 : decode prog_144_method_20_code 109 = .ok (.iconst 1, 1) := by decide +kernel
theorem d11_110 : decode prog_144_method_20_code 110 = .ok (.isub, 1) := by decide +kernel
theorem d11_111 : decode prog_144_method_20_code 111 = .ok (.iaload, 1) := by decide +kernel
theorem d11_112 : decode prog_144_method_20_code 112 = .ok (.iload 8, 2) := by decide +kernel
theorem d11_114 : decode prog_144_method_20_code 114 = .ok (.if_icmp .ne 19, 3) := by decide +kernel
theorem d11_117 : decode prog_144_method_20_code 117 = .ok (.aload_n 0, 1) := by decide +kernel
theorem d11_118 : decode prog_144_method_20_code 118 = .ok (.getfield 19, 3) := by decide +kernel
theorem d11_121 : decode prog_144_method_20_code 121 = .ok (.iload_n 3, 1) := by decide +kernel
theorem d11_122 : decode prog_144_method_20_code 122 = .ok (.iconst 1, 1) := by decide +kernel
theorem d11_123 : decode prog_144_method_20_code 123 = .ok (.isub, 1) := by decide +kernel
theorem d11_124 : decode prog_144_method_20_code 124 = .ok (.dup2, 1) := by decide +kernel
theorem d11_125 : decode prog_144_method_20_code 125 = .ok (.iaload, 1) := by decide +kernel
theorem d11_126 : decode prog_144_method_20_code 126 = .ok (.iload 7, 2) := by decide +kernel
theorem d11_128 : decode prog_144_method_20_code 128 = .ok (.iadd, 1) := by decide +kernel
theorem d11_129 : decode prog_144_method_20_code 129 = .ok (.iastore, 1) := by decide +kernel
theorem d11_130 : decode prog_144_method_20_code 130 = .ok (.goto 35, 3) := by decide +kernel
theorem d11_133 : decode prog_144_method_20_code 133 = .ok (.aload_n 0, 1) := by decide +kernel
theorem d11_134 : decode prog_144_method_20_code 134 = .ok (.getfield 19, 3) := by decide +kernel
theorem d11_137 : decode prog_144_method_20_code 137 = .ok (.iload_n 3, 1) := by decide +kernel
theorem d11_138 : decode prog_144_method_20_code 138 = .ok (.iload 7, 2) := by decide +kernel
theorem d11_140 : decode prog_144_method_20_code 140 = .ok (.iastore, 1) := by decide +kernel
theorem d11_141 : decode prog_144_method_20_code 141 = .ok (.aload_n 0, 1) := by decide +kernel
theorem d11_142 : decode prog_144_method_20_code 142 = .ok (.getfield 23, 3) := by decide +kernel
theorem d11_145 : decode prog_144_method_20_code 145 = .ok (.iload_n 3, 1) := by decide +kernel
theorem d11_146 : decode prog_144_method_20_code 146 = .ok (.iload 8, 2) := by decide +kernel
theorem d11_148 : decode prog_144_method_20_code 148 = .ok (.iastore, 1) := by decide +kernel
theorem d11_149 : decode prog_144_method_20_code 149 = .ok (.aload_n 0, 1) := by decide +kernel
theorem d11_150 : decode prog_144_method_20_code 150 = .ok (.getfield 26, 3) := by decide +kernel
theorem d11_153 : decode prog_144_method_20_code 153 = .ok (.iload_n 3, 1) := by decide +kernel
theorem d11_154 : decode prog_144_method_20_code 154 = .ok (.iinc 3 1, 3) := by decide +kernel
theorem d11_157 : decode prog_144_method_20_code 157 = .ok (.aload_n 0, 1) := by decide +kernel
theorem d11_158 : decode prog_144_method_20_code 158 = .ok (.getfield 26, 3) := by decide +kernel
theorem d11_161 : decode prog_144_method_20_code 161 = .ok (.iload 6, 2) := by decide +kernel
theorem d11_163 : decode prog_144_method_20_code 163 = .ok (.iaload, 1) := by decide +kernel
theorem d11_164 : decode prog_144_method_20_code 164 = .ok (.iastore, 1) := by decide +kernel
theorem d11_165 : decode prog_144_method_20_code 165 = .ok (.iload 4, 2) := by decide +kernel
theorem d11_167 : decode prog_144_method_20_code 167 = .ok (.iload 7, 2) := by decide +kernel
theorem d11_169 : decode prog_144_method_20_code 169 = .ok (.iadd, 1) := by decide +kernel
theorem d11_170 : decode prog_144_method_20_code 170 = .ok (.istore 4, 2) := by decide +kernel
theorem d11_172 : decode prog_144_method_20_code 172 = .ok (.iinc 6 1, 3) := by decide +kernel
theorem d11_175 : decode prog_144_method_20_code 175 = .ok (.goto (-138), 3) := by decide +kernel
theorem d11_178 : decode prog_144_method_20_code 178 = .ok (.iload 5, 2) := by decide +kernel
theorem d11_180 : decode prog_144_method_20_code 180 = .ok (.ifCond .eq 19, 3) := by decide +kernel
theorem d11_199 : decode prog_144_method_20_code 199 = .ok (.aload_n 0, 1) := by decide +kernel
theorem d11_200 : decode prog_144_method_20_code 200 = .ok (.iload_n 3, 1) := by decide +kernel
theorem d11_201 : decode prog_144_method_20_code 201 = .ok (.putfield 56, 3) := by decide +kernel
theorem d11_204 : decode prog_144_method_20_code 204 = .ok (.aload_n 0, 1) := by decide +kernel
theorem d11_205 : decode prog_144_method_20_code 205 = .ok (.invokevirtual 95, 3) := by decide +kernel
theorem d11_208 : decode prog_144_method_20_code 208 = .ok (.return_, 1) := by decide +kernel
theorem pn10 : plainFor (⟨"com/example/tracewarden/tracewarden/monitor/WindowEntries", "dropAndJoin", "(I)V"⟩ : MethodName) = true := by first | exact plainFor_of_name (by simp [plainName, overriddenIn]; done) | decide +kernel
theorem ef11 (m : MethodId) (x0 : Addr) (x1 : Int32) : entryFrame m #[(.ref x0), (.int x1)] 9 = mkF m 0 #[.val (.ref x0), .val (.int x1), .unset, .unset, .unset, .unset, .unset, .unset, .unset] [] := by first | (simp [entryFrame, mkF, argsToLocals, Value.category]; done) | rfl
set_option maxRecDepth 65536 in
set_option maxHeartbeats 40000000 in
theorem rm11 (l : Launch) (Z : State) (a0 : Array Value) (hw : ∀ d ∈ tables_1, d.before a0 Z = true) (o0 : Addr) (h0 : Heap) (n0 : Nat) (op oc of' ol ok : Addr) (f0 f1 f2 f3 f4 : Int32) (fr : List (Addr × (Cell → Prop))) (O0 : Own.Owns n0 h0 ((o0, WEo Z (.ref op) (.ref oc) (.ref of') (.ref ol) (.ref ok) (iI 0) (iI 5) (iI 0) (iI 0)) :: (oc, Own.ArrC Z .int [(iI 1), (iI 1), (iI 1), (iI 1), (iI 1), (iI 0), (iI 0), (iI 0)]) :: (of', Own.ArrC Z .int [(.int f0), (.int f1), (.int f2), (.int f3), (.int f4), (iI 0), (iI 0), (iI 0)]) :: (ol, Own.ArrC Z .int [(iI 0), (iI 0), (iI 0), (iI 0), (iI 0), (iI 0), (iI 0), (iI 0)]) :: (ok, Own.ArrC Z .long [(jJ 0), (jJ 0), (jJ 0), (jJ 0)]) :: fr)) (hz0 : ¬ (f0 = (0 : Int32))) (hz1 : ¬ (f1 = (0 : Int32))) (hz2 : ¬ (f2 = (0 : Int32))) (hz3 : ¬ (f3 = (0 : Int32))) (hz4 : ¬ (f4 = (0 : Int32))) : Own.Does l (⟨"com/example/tracewarden/tracewarden/monitor/WindowEntries", "dropAndJoin", "(I)V"⟩ : MethodName) prog_144_method_20_code 9 none [] ({ frames := 1, cells := 1, slots := 10, locals := 12 } : Room) Z #[(.ref o0), (.int (0 : Int32))] h0 n0 (fun v h => ∃ (cs : List Nat) (js : Int32) (ok2 : Addr), v = none ∧ goodB cs (dif f0 f1) (dif f1 f2) (dif f2 f3) (dif f3 f4) = true ∧ Own.Owns n0 h ((o0, WEo Z (.ref op) (.ref oc) (.ref of') (.ref ol) (.ref ok2) (iI 0) (.int js) (iI 0) (iI 0)) :: (oc, Own.ArrC Z .int (cs.map gI)) :: fr)) := by
  refine Own.doesOf pn10 ?_
  intro p e s m below meth c hx hby hml hret hlk hown hnm hZ
  refine Own.Goes.cast (ef11 m o0 (0 : Int32)) ?_
  refine Own.aloadN hx (.ref o0) (hb hby d11_0) rfl rfl rfl ?_
  refine Own.getfield hx hZ hown O0 0 4 rfl rfl (hw _ (wm 42 rfl)) (hb hby d11_1) rfl ?_
  refine Own.arrlen hx hZ O0 4 rfl (4 : Int32) rfl (hb hby d11_4) rfl ?_
  refine Own.aloadN hx (.ref o0) (hb hby d11_5) rfl rfl rfl ?_
  refine Own.getfield hx hZ hown O0 0 6 rfl rfl (hw _ (wm 55 rfl)) (hb hby d11_6) rfl ?_
  have hc1 : (4 : Int32) < (5 : Int32) := by decide
  refine Own.icmpFn hx (Own.q_ge (4 : Int32) (5 : Int32)) (hb hby d11_9) (pcN := 12) rfl (by decide) (pcT := 24) rfl (fun q => absurd hc1 q) (fun _ => ?_)
  refine Own.aloadN hx (.ref o0) (hb hby d11_12) rfl rfl rfl ?_
  refine Own.iconst hx (2 : Int32) (hb hby d11_13) rfl (by decide) ?_
  refine Own.aloadN hx (.ref o0) (hb hby d11_14) rfl rfl rfl ?_
  refine Own.getfield hx hZ hown O0 0 6 rfl rfl (hw _ (wm 55 rfl)) (hb hby d11_15) rfl ?_
  refine Own.imul hx (hb hby d11_18) rfl ?_
  refine Own.vI (10 : Int32) (by decide) ?_
  refine Own.newarr hx hZ O0 (aty := .long) (hw _ (wm 20 rfl)) 10 (by decide) [(.long (0 : Int64)), (.long (0 : Int64)), (.long (0 : Int64)), (.long (0 : Int64)), (.long (0 : Int64)), (.long (0 : Int64)), (.long (0 : Int64)), (.long (0 : Int64)), (.long (0 : Int64)), (.long (0 : Int64))] rfl rfl (cap := 10) (by decide) (by decide) (k' := 1) (n' := 10) rfl rfl (by decide) (by decide) (hb hby d11_19) (pc' := 21) rfl ?_
  intro a3 h4 O5
  refine Own.putfield hx hZ hown O5 1 4 rfl rfl (hw _ (wm 42 rfl)) (Or.inl (hw _ (wm 43 rfl))) (hw _ (wm 2 rfl)) (ty := (.array .long)) (by decide) rfl rfl ((a3, Own.ArrC Z .long [(jJ 0), (jJ 0), (jJ 0), (jJ 0), (jJ 0), (jJ 0), (jJ 0), (jJ 0), (jJ 0), (jJ 0)]) :: (o0, WEo Z (.ref op) (.ref oc) (.ref of') (.ref ol) (.ref a3) (iI 0) (iI 5) (iI 0) (iI 0)) :: (oc, Own.ArrC Z .int [(iI 1), (iI 1), (iI 1), (iI 1), (iI 1), (iI 0), (iI 0), (iI 0)]) :: (of', Own.ArrC Z .int [(.int f0), (.int f1), (.int f2), (.int f3), (.int f4), (iI 0), (iI 0), (iI 0)]) :: (ol, Own.ArrC Z .int [(iI 0), (iI 0), (iI 0), (iI 0), (iI 0), (iI 0), (iI 0), (iI 0)]) :: (ok, Own.ArrC Z .long [(jJ 0), (jJ 0), (jJ 0), (jJ 0)]) :: fr) rfl (hb hby d11_21) rfl ?_
  intro h6 O7
  refine Own.iconst hx (0 : Int32) (hb hby d11_24) rfl (by decide) ?_
  refine Own.istoreN hx (0 : Int32) rfl #[.val (.ref o0), .val (.int (0 : Int32)), .val (.int (0 : Int32)), .unset, .unset, .unset, .unset, .unset, .unset] (hb hby d11_25) rfl rfl ?_
  refine Own.iconst hx (0 : Int32) (hb hby d11_26) rfl (by decide) ?_
  refine Own.istoreN hx (0 : Int32) rfl #[.val (.ref o0), .val (.int (0 : Int32)), .val (.int (0 : Int32)), .val (.int (0 : Int32)), .unset, .unset, .unset, .unset, .unset] (hb hby d11_27) rfl rfl ?_
  refine Own.iconst hx (0 : Int32) (hb hby d11_28) rfl (by decide) ?_
  refine Own.istore hx (0 : Int32) rfl #[.val (.ref o0), .val (.int (0 : Int32)), .val (.int (0 : Int32)), .val (.int (0 : Int32)), .val (.int (0 : Int32)), .unset, .unset, .unset, .unset] (hb hby d11_29) rfl rfl ?_
  refine Own.iconst hx (0 : Int32) (hb hby d11_31) rfl (by decide) ?_
  refine Own.istore hx (0 : Int32) rfl #[.val (.ref o0), .val (.int (0 : Int32)), .val (.int (0 : Int32)), .val (.int (0 : Int32)), .val (.int (0 : Int32)), .val (.int (0 : Int32)), .unset, .unset, .unset] (hb hby d11_32) rfl rfl ?_
  refine Own.iconst hx (0 : Int32) (hb hby d11_34) rfl (by decide) ?_
  refine Own.istore hx (0 : Int32) rfl #[.val (.ref o0), .val (.int (0 : Int32)), .val (.int (0 : Int32)), .val (.int (0 : Int32)), .val (.int (0 : Int32)), .val (.int (0 : Int32)), .val (.int (0 : Int32)), .unset, .unset] (hb hby d11_35) rfl rfl ?_
  refine Own.iload hx (0 : Int32) (hb hby d11_37) rfl rfl ?_
  refine Own.aloadN hx (.ref o0) (hb hby d11_39) rfl rfl rfl ?_
  refine Own.getfield hx hZ hown O7 1 6 rfl rfl (hw _ (wm 55 rfl)) (hb hby d11_40) rfl ?_
  have hc8 : (0 : Int32) < (5 : Int32) := by decide
  refine Own.icmpFn hx (Own.q_ge (0 : Int32) (5 : Int32)) (hb hby d11_43) (pcN := 46) rfl (by decide) (pcT := 178) rfl (fun q => absurd hc8 q) (fun _ => ?_)
  refine Own.aloadN hx (.ref o0) (hb hby d11_46) rfl rfl rfl ?_
  refine Own.getfield hx hZ hown O7 1 1 rfl rfl (hw _ (wm 36 rfl)) (hb hby d11_47) rfl ?_
  refine Own.iload hx (0 : Int32) (hb hby d11_50) rfl rfl ?_
  refine Own.iaload hx hZ O7 2 0 rfl (by decide) (v := (.int (1 : Int32))) rfl (hb hby d11_52) rfl ?_
  refine Own.istore hx (1 : Int32) rfl #[.val (.ref o0), .val (.int (0 : Int32)), .val (.int (0 : Int32)), .val (.int (0 : Int32)), .val (.int (0 : Int32)), .val (.int (0 : Int32)), .val (.int (0 : Int32)), .val (.int (1 : Int32)), .unset] (hb hby d11_53) rfl rfl ?_
  refine Own.aloadN hx (.ref o0) (hb hby d11_55) rfl rfl rfl ?_
  refine Own.getfield hx hZ hown O7 1 2 rfl rfl (hw _ (wm 38 rfl)) (hb hby d11_56) rfl ?_
  refine Own.iload hx (0 : Int32) (hb hby d11_59) rfl rfl ?_
  refine Own.iaload hx hZ O7 3 0 rfl (by decide) (v := (.int f0)) rfl (hb hby d11_61) rfl ?_
  refine Own.istore hx f0 rfl #[.val (.ref o0), .val (.int (0 : Int32)), .val (.int (0 : Int32)), .val (.int (0 : Int32)), .val (.int (0 : Int32)), .val (.int (0 : Int32)), .val (.int (0 : Int32)), .val (.int (1 : Int32)), .val (.int f0)] (hb hby d11_62) rfl rfl ?_
  refine Own.iload hx f0 (hb hby d11_64) rfl rfl ?_
  refine Own.iloadN hx (0 : Int32) (hb hby d11_66) rfl rfl ?_
  have hc10 : ¬ (f0 = (0 : Int32)) := hz0
  refine Own.icmpFn hx (Own.q_ne f0 (0 : Int32)) (hb hby d11_67) (pcN := 70) rfl (by decide) (pcT := 76) rfl (fun _ => ?_) (fun q => absurd q hc10)
  refine Own.aloadN hx (.ref o0) (hb hby d11_76) rfl rfl rfl ?_
  refine Own.getfield hx hZ hown O7 1 4 rfl rfl (hw _ (wm 42 rfl)) (hb hby d11_77) rfl ?_
  refine Own.iloadN hx (0 : Int32) (hb hby d11_80) rfl rfl ?_
  refine Own.iinc hx (1 : Int32) #[.val (.ref o0), .val (.int (0 : Int32)), .val (.int (1 : Int32)), .val (.int (0 : Int32)), .val (.int (0 : Int32)), .val (.int (0 : Int32)), .val (.int (0 : Int32)), .val (.int (1 : Int32)), .val (.int f0)] (hb hby d11_81) rfl rfl (by decide) rfl ?_
  refine Own.iload hx (0 : Int32) (hb hby d11_84) rfl rfl ?_
  refine Own.i2l hx (hb hby d11_86) rfl ?_
  refine Own.vL (0 : Int64) (by decide) ?_
  refine Own.bipush hx (32 : Int32) (hb hby d11_87) rfl (by decide) ?_
  refine Own.lshl hx (hb hby d11_89) rfl ?_
  refine Own.vL (0 : Int64) (by decide) ?_
  refine Own.iload hx (0 : Int32) (hb hby d11_90) rfl rfl ?_
  refine Own.iload hx (1 : Int32) (hb hby d11_92) rfl rfl ?_
  refine Own.iadd hx (hb hby d11_94) rfl ?_
  refine Own.vI (1 : Int32) (by decide) ?_
  refine Own.iconst hx (1 : Int32) (hb hby d11_95) rfl (by decide) ?_
  refine Own.isub hx (hb hby d11_96) rfl ?_
  refine Own.vI (0 : Int32) (by decide) ?_
  refine Own.i2l hx (hb hby d11_97) rfl ?_
  refine Own.vL (0 : Int64) (by decide) ?_
  refine Own.lor hx (hb hby d11_98) rfl ?_
  refine Own.vL (0 : Int64) (by decide) ?_
  refine Own.lastore hx hZ O7 0 0 rfl (by decide) (by exact (show 0 < 10 by decide)) ((a3, Own.ArrC Z .long [(jJ 0), (jJ 0), (jJ 0), (jJ 0), (jJ 0), (jJ 0), (jJ 0), (jJ 0), (jJ 0), (jJ 0)]) :: (o0, WEo Z (.ref op) (.ref oc) (.ref of') (.ref ol) (.ref a3) (iI 0) (iI 5) (iI 0) (iI 0)) :: (oc, Own.ArrC Z .int [(iI 1), (iI 1), (iI 1), (iI 1), (iI 1), (iI 0), (iI 0), (iI 0)]) :: (of', Own.ArrC Z .int [(.int f0), (.int f1), (.int f2), (.int f3), (.int f4), (iI 0), (iI 0), (iI 0)]) :: (ol, Own.ArrC Z .int [(iI 0), (iI 0), (iI 0), (iI 0), (iI 0), (iI 0), (iI 0), (iI 0)]) :: (ok, Own.ArrC Z .long [(jJ 0), (jJ 0), (jJ 0), (jJ 0)]) :: fr) rfl (hb hby d11_99) rfl ?_
  intro h12 O13
  refine Own.iloadN hx (0 : Int32) (hb hby d11_100) rfl rfl ?_
  have hc14 : ¬ ((0 : Int32) < (0 : Int32)) := by decide
  refine Own.ifFn hx (Own.z_le (0 : Int32)) (hb hby d11_101) (pcN := 104) rfl (by decide) (pcT := 133) rfl (fun _ => ?_) (fun q => absurd q hc14)
  refine Own.aloadN hx (.ref o0) (hb hby d11_133) rfl rfl rfl ?_
  refine Own.getfield hx hZ hown O13 1 1 rfl rfl (hw _ (wm 36 rfl)) (hb hby d11_134) rfl ?_
  refine Own.iloadN hx (0 : Int32) (hb hby d11_137) rfl rfl ?_
  refine Own.iload hx (1 : Int32) (hb hby d11_138) rfl rfl ?_
  refine Own.iastore hx hZ O13 2 0 rfl (by decide) (by exact (show 0 < 8 by decide)) ((a3, Own.ArrC Z .long [(jJ 0), (jJ 0), (jJ 0), (jJ 0), (jJ 0), (jJ 0), (jJ 0), (jJ 0), (jJ 0), (jJ 0)]) :: (o0, WEo Z (.ref op) (.ref oc) (.ref of') (.ref ol) (.ref a3) (iI 0) (iI 5) (iI 0) (iI 0)) :: (oc, Own.ArrC Z .int [(iI 1), (iI 1), (iI 1), (iI 1), (iI 1), (iI 0), (iI 0), (iI 0)]) :: (of', Own.ArrC Z .int [(.int f0), (.int f1), (.int f2), (.int f3), (.int f4), (iI 0), (iI 0), (iI 0)]) :: (ol, Own.ArrC Z .int [(iI 0), (iI 0), (iI 0), (iI 0), (iI 0), (iI 0), (iI 0), (iI 0)]) :: (ok, Own.ArrC Z .long [(jJ 0), (jJ 0), (jJ 0), (jJ 0)]) :: fr) rfl (hb hby d11_140) rfl ?_
  intro h16 O17
  refine Own.aloadN hx (.ref o0) (hb hby d11_141) rfl rfl rfl ?_
  refine Own.getfield hx hZ hown O17 1 2 rfl rfl (hw _ (wm 38 rfl)) (hb hby d11_142) rfl ?_
  refine Own.iloadN hx (0 : Int32) (hb hby d11_145) rfl rfl ?_
  refine Own.iload hx f0 (hb hby d11_146) rfl rfl ?_
  refine Own.iastore hx hZ O17 3 0 rfl (by decide) (by exact (show 0 < 8 by decide)) ((a3, Own.ArrC Z .long [(jJ 0), (jJ 0), (jJ 0), (jJ 0), (jJ 0), (jJ 0), (jJ 0), (jJ 0), (jJ 0), (jJ 0)]) :: (o0, WEo Z (.ref op) (.ref oc) (.ref of') (.ref ol) (.ref a3) (iI 0) (iI 5) (iI 0) (iI 0)) :: (oc, Own.ArrC Z .int [(iI 1), (iI 1), (iI 1), (iI 1), (iI 1), (iI 0), (iI 0), (iI 0)]) :: (of', Own.ArrC Z .int [(.int f0), (.int f1), (.int f2), (.int f3), (.int f4), (iI 0), (iI 0), (iI 0)]) :: (ol, Own.ArrC Z .int [(iI 0), (iI 0), (iI 0), (iI 0), (iI 0), (iI 0), (iI 0), (iI 0)]) :: (ok, Own.ArrC Z .long [(jJ 0), (jJ 0), (jJ 0), (jJ 0)]) :: fr) rfl (hb hby d11_148) rfl ?_
  intro h18 O19
  refine Own.aloadN hx (.ref o0) (hb hby d11_149) rfl rfl rfl ?_
  refine Own.getfield hx hZ hown O19 1 3 rfl rfl (hw _ (wm 40 rfl)) (hb hby d11_150) rfl ?_
  refine Own.iloadN hx (0 : Int32) (hb hby d11_153) rfl rfl ?_
  refine Own.iinc hx (1 : Int32) #[.val (.ref o0), .val (.int (0 : Int32)), .val (.int (1 : Int32)), .val (.int (1 : Int32)), .val (.int (0 : Int32)), .val (.int (0 : Int32)), .val (.int (0 : Int32)), .val (.int (1 : Int32)), .val (.int f0)] (hb hby d11_154) rfl rfl (by decide) rfl ?_
  refine Own.aloadN hx (.ref o0) (hb hby d11_157) rfl rfl rfl ?_
  refine Own.getfield hx hZ hown O19 1 3 rfl rfl (hw _ (wm 40 rfl)) (hb hby d11_158) rfl ?_
  refine Own.iload hx (0 : Int32) (hb hby d11_161) rfl rfl ?_
  refine Own.iaload hx hZ O19 4 0 rfl (by decide) (v := (.int (0 : Int32))) rfl (hb hby d11_163) rfl ?_
  refine Own.iastore hx hZ O19 4 0 rfl (by decide) (by exact (show 0 < 8 by decide)) ((a3, Own.ArrC Z .long [(jJ 0), (jJ 0), (jJ 0), (jJ 0), (jJ 0), (jJ 0), (jJ 0), (jJ 0), (jJ 0), (jJ 0)]) :: (o0, WEo Z (.ref op) (.ref oc) (.ref of') (.ref ol) (.ref a3) (iI 0) (iI 5) (iI 0) (iI 0)) :: (oc, Own.ArrC Z .int [(iI 1), (iI 1), (iI 1), (iI 1), (iI 1), (iI 0), (iI 0), (iI 0)]) :: (of', Own.ArrC Z .int [(.int f0), (.int f1), (.int f2), (.int f3), (.int f4), (iI 0), (iI 0), (iI 0)]) :: (ol, Own.ArrC Z .int [(iI 0), (iI 0), (iI 0), (iI 0), (iI 0), (iI 0), (iI 0), (iI 0)]) :: (ok, Own.ArrC Z .long [(jJ 0), (jJ 0), (jJ 0), (jJ 0)]) :: fr) rfl (hb hby d11_164) rfl ?_
  intro h20 O21
  refine Own.iload hx (0 : Int32) (hb hby d11_165) rfl rfl ?_
  refine Own.iload hx (1 : Int32) (hb hby d11_167) rfl rfl ?_
  refine Own.iadd hx (hb hby d11_169) rfl ?_
  refine Own.vI (1 : Int32) (by decide) ?_
  refine Own.istore hx (1 : Int32) rfl #[.val (.ref o0), .val (.int (0 : Int32)), .val (.int (1 : Int32)), .val (.int (1 : Int32)), .val (.int (1 : Int32)), .val (.int (0 : Int32)), .val (.int (0 : Int32)), .val (.int (1 : Int32)), .val (.int f0)] (hb hby d11_170) rfl rfl ?_
  refine Own.iinc hx (1 : Int32) #[.val (.ref o0), .val (.int (0 : Int32)), .val (.int (1 : Int32)), .val (.int (1 : Int32)), .val (.int (1 : Int32)), .val (.int (0 : Int32)), .val (.int (1 : Int32)), .val (.int (1 : Int32)), .val (.int f0)] (hb hby d11_172) rfl rfl (by decide) rfl ?_
  refine Own.goto hx (hb hby d11_175) (by decide) (pc' := 37) rfl ?_
  refine Own.iload hx (1 : Int32) (hb hby d11_37) rfl rfl ?_
  refine Own.aloadN hx (.ref o0) (hb hby d11_39) rfl rfl rfl ?_
  refine Own.getfield hx hZ hown O21 1 6 rfl rfl (hw _ (wm 55 rfl)) (hb hby d11_40) rfl ?_
  have hc22 : (1 : Int32) < (5 : Int32) := by decide
  refine Own.icmpFn hx (Own.q_ge (1 : Int32) (5 : Int32)) (hb hby d11_43) (pcN := 46) rfl (by decide) (pcT := 178) rfl (fun q => absurd hc22 q) (fun _ => ?_)
  refine Own.aloadN hx (.ref o0) (hb hby d11_46) rfl rfl rfl ?_
  refine Own.getfield hx hZ hown O21 1 1 rfl rfl (hw _ (wm 36 rfl)) (hb hby d11_47) rfl ?_
  refine Own.iload hx (1 : Int32) (hb hby d11_50) rfl rfl ?_
  refine Own.iaload hx hZ O21 2 1 rfl (by decide) (v := (.int (1 : Int32))) rfl (hb hby d11_52) rfl ?_
  refine Own.istore hx (1 : Int32) rfl #[.val (.ref o0), .val (.int (0 : Int32)), .val (.int (1 : Int32)), .val (.int (1 : Int32)), .val (.int (1 : Int32)), .val (.int (0 : Int32)), .val (.int (1 : Int32)), .val (.int (1 : Int32)), .val (.int f0)] (hb hby d11_53) rfl rfl ?_
  refine Own.aloadN hx (.ref o0) (hb hby d11_55) rfl rfl rfl ?_
  refine Own.getfield hx hZ hown O21 1 2 rfl rfl (hw _ (wm 38 rfl)) (hb hby d11_56) rfl ?_
  refine Own.iload hx (1 : Int32) (hb hby d11_59) rfl rfl ?_
  refine Own.iaload hx hZ O21 3 1 rfl (by decide) (v := (.int f1)) rfl (hb hby d11_61) rfl ?_
  refine Own.istore hx f1 rfl #[.val (.ref o0), .val (.int (0 : Int32)), .val (.int (1 : Int32)), .val (.int (1 : Int32)), .val (.int (1 : Int32)), .val (.int (0 : Int32)), .val (.int (1 : Int32)), .val (.int (1 : Int32)), .val (.int f1)] (hb hby d11_62) rfl rfl ?_
  refine Own.iload hx f1 (hb hby d11_64) rfl rfl ?_
  refine Own.iloadN hx (0 : Int32) (hb hby d11_66) rfl rfl ?_
  have hc24 : ¬ (f1 = (0 : Int32)) := hz1
  refine Own.icmpFn hx (Own.q_ne f1 (0 : Int32)) (hb hby d11_67) (pcN := 70) rfl (by decide) (pcT := 76) rfl (fun _ => ?_) (fun q => absurd q hc24)
  refine Own.aloadN hx (.ref o0) (hb hby d11_76) rfl rfl rfl ?_
  refine Own.getfield hx hZ hown O21 1 4 rfl rfl (hw _ (wm 42 rfl)) (hb hby d11_77) rfl ?_
  refine Own.iloadN hx (1 : Int32) (hb hby d11_80) rfl rfl ?_
  refine Own.iinc hx (2 : Int32) #[.val (.ref o0), .val (.int (0 : Int32)), .val (.int (2 : Int32)), .val (.int (1 : Int32)), .val (.int (1 : Int32)), .val (.int (0 : Int32)), .val (.int (1 : Int32)), .val (.int (1 : Int32)), .val (.int f1)] (hb hby d11_81) rfl rfl (by decide) rfl ?_
  refine Own.iload hx (1 : Int32) (hb hby d11_84) rfl rfl ?_
  refine Own.i2l hx (hb hby d11_86) rfl ?_
  refine Own.vL (1 : Int64) (by decide) ?_
  refine Own.bipush hx (32 : Int32) (hb hby d11_87) rfl (by decide) ?_
  refine Own.lshl hx (hb hby d11_89) rfl ?_
  refine Own.vL (4294967296 : Int64) (by decide) ?_
  refine Own.iload hx (1 : Int32) (hb hby d11_90) rfl rfl ?_
  refine Own.iload hx (1 : Int32) (hb hby d11_92) rfl rfl ?_
  refine Own.iadd hx (hb hby d11_94) rfl ?_
  refine Own.vI (2 : Int32) (by decide) ?_
  refine Own.iconst hx (1 : Int32) (hb hby d11_95) rfl (by decide) ?_
  refine Own.isub hx (hb hby d11_96) rfl ?_
  refine Own.vI (1 : Int32) (by decide) ?_
  refine Own.i2l hx (hb hby d11_97) rfl ?_
  refine Own.vL (1 : Int64) (by decide) ?_
  refine Own.lor hx (hb hby d11_98) rfl ?_
  refine Own.vL (4294967297 : Int64) (by decide) ?_
  refine Own.lastore hx hZ O21 0 1 rfl (by decide) (by exact (show 1 < 10 by decide)) ((a3, Own.ArrC Z .long [(jJ 0), (jJ 4294967297), (jJ 0), (jJ 0), (jJ 0), (jJ 0), (jJ 0), (jJ 0), (jJ 0), (jJ 0)]) :: (o0, WEo Z (.ref op) (.ref oc) (.ref of') (.ref ol) (.ref a3) (iI 0) (iI 5) (iI 0) (iI 0)) :: (oc, Own.ArrC Z .int [(iI 1), (iI 1), (iI 1), (iI 1), (iI 1), (iI 0), (iI 0), (iI 0)]) :: (of', Own.ArrC Z .int [(.int f0), (.int f1), (.int f2), (.int f3), (.int f4), (iI 0), (iI 0), (iI 0)]) :: (ol, Own.ArrC Z .int [(iI 0), (iI 0), (iI 0), (iI 0), (iI 0), (iI 0), (iI 0), (iI 0)]) :: (ok, Own.ArrC Z .long [(jJ 0), (jJ 0), (jJ 0), (jJ 0)]) :: fr) rfl (hb hby d11_99) rfl ?_
  intro h26 O27
  refine Own.iloadN hx (1 : Int32) (hb hby d11_100) rfl rfl ?_
  have hc28 : (0 : Int32) < (1 : Int32) := by decide
  refine Own.ifFn hx (Own.z_le (1 : Int32)) (hb hby d11_101) (pcN := 104) rfl (by decide) (pcT := 133) rfl (fun q => absurd hc28 q) (fun _ => ?_)
  refine Own.aloadN hx (.ref o0) (hb hby d11_104) rfl rfl rfl ?_
  refine Own.getfield hx hZ hown O27 1 2 rfl rfl (hw _ (wm 38 rfl)) (hb hby d11_105) rfl ?_
  refine Own.iloadN hx (1 : Int32) (hb hby d11_108) rfl rfl ?_
  refine Own.iconst hx (1 : Int32) (hb hby d11_109) rfl (by decide) ?_
  refine Own.isub hx (hb hby d11_110) rfl ?_
  refine Own.vI (0 : Int32) (by decide) ?_
  refine Own.iaload hx hZ O27 3 0 rfl (by decide) (v := (.int f0)) rfl (hb hby d11_111) rfl ?_
  refine Own.iload hx f1 (hb hby d11_112) rfl rfl ?_
  refine Own.icmpFn hx (Own.q_ne f0 f1) (hb hby d11_114) (pcN := 117) rfl (by decide) (pcT := 133) rfl (fun hc30 => ?_) (fun hc30 => ?_)
  · refine Own.aloadN hx (.ref o0) (hb hby d11_133) rfl rfl rfl ?_
    refine Own.getfield hx hZ hown O27 1 1 rfl rfl (hw _ (wm 36 rfl)) (hb hby d11_134) rfl ?_
    refine Own.iloadN hx (1 : Int32) (hb hby d11_137) rfl rfl ?_
    refine Own.iload hx (1 : Int32) (hb hby d11_138) rfl rfl ?_
    refine Own.iastore hx hZ O27 2 1 rfl (by decide) (by exact (show 1 < 8 by decide)) ((a3, Own.ArrC Z .long [(jJ 0), (jJ 4294967297), (jJ 0), (jJ 0), (jJ 0), (jJ 0), (jJ 0), (jJ 0), (jJ 0), (jJ 0)]) :: (o0, WEo Z (.ref op) (.ref oc) (.ref of') (.ref ol) (.ref a3) (iI 0) (iI 5) (iI 0) (iI 0)) :: (oc, Own.ArrC Z .int [(iI 1), (iI 1), (iI 1), (iI 1), (iI 1), (iI 0), (iI 0), (iI 0)]) :: (of', Own.ArrC Z .int [(.int f0), (.int f1), (.int f2), (.int f3), (.int f4), (iI 0), (iI 0), (iI 0)]) :: (ol, Own.ArrC Z .int [(iI 0), (iI 0), (iI 0), (iI 0), (iI 0), (iI 0), (iI 0), (iI 0)]) :: (ok, Own.ArrC Z .long [(jJ 0), (jJ 0), (jJ 0), (jJ 0)]) :: fr) rfl (hb hby d11_140) rfl ?_
    intro h31 O32
    refine Own.aloadN hx (.ref o0) (hb hby d11_141) rfl rfl rfl ?_
    refine Own.getfield hx hZ hown O32 1 2 rfl rfl (hw _ (wm 38 rfl)) (hb hby d11_142) rfl ?_
    refine Own.iloadN hx (1 : Int32) (hb hby d11_145) rfl rfl ?_
    refine Own.iload hx f1 (hb hby d11_146) rfl rfl ?_
    refine Own.iastore hx hZ O32 3 1 rfl (by decide) (by exact (show 1 < 8 by decide)) ((a3, Own.ArrC Z .long [(jJ 0), (jJ 4294967297), (jJ 0), (jJ 0), (jJ 0), (jJ 0), (jJ 0), (jJ 0), (jJ 0), (jJ 0)]) :: (o0, WEo Z (.ref op) (.ref oc) (.ref of') (.ref ol) (.ref a3) (iI 0) (iI 5) (iI 0) (iI 0)) :: (oc, Own.ArrC Z .int [(iI 1), (iI 1), (iI 1), (iI 1), (iI 1), (iI 0), (iI 0), (iI 0)]) :: (of', Own.ArrC Z .int [(.int f0), (.int f1), (.int f2), (.int f3), (.int f4), (iI 0), (iI 0), (iI 0)]) :: (ol, Own.ArrC Z .int [(iI 0), (iI 0), (iI 0), (iI 0), (iI 0), (iI 0), (iI 0), (iI 0)]) :: (ok, Own.ArrC Z .long [(jJ 0), (jJ 0), (jJ 0), (jJ 0)]) :: fr) rfl (hb hby d11_148) rfl ?_
    intro h33 O34
    refine Own.aloadN hx (.ref o0) (hb hby d11_149) rfl rfl rfl ?_
    refine Own.getfield hx hZ hown O34 1 3 rfl rfl (hw _ (wm 40 rfl)) (hb hby d11_150) rfl ?_
    refine Own.iloadN hx (1 : Int32) (hb hby d11_153) rfl rfl ?_
    refine Own.iinc hx (2 : Int32) #[.val (.ref o0), .val (.int (0 : Int32)), .val (.int (2 : Int32)), .val (.int (2 : Int32)), .val (.int (1 : Int32)), .val (.int (0 : Int32)), .val (.int (1 : Int32)), .val (.int (1 : Int32)), .val (.int f1)] (hb hby d11_154) rfl rfl (by decide) rfl ?_
    refine Own.aloadN hx (.ref o0) (hb hby d11_157) rfl rfl rfl ?_
    refine Own.getfield hx hZ hown O34 1 3 rfl rfl (hw _ (wm 40 rfl)) (hb hby d11_158) rfl ?_
    refine Own.iload hx (1 : Int32) (hb hby d11_161) rfl rfl ?_
    refine Own.iaload hx hZ O34 4 1 rfl (by decide) (v := (.int (0 : Int32))) rfl (hb hby d11_163) rfl ?_
    refine Own.iastore hx hZ O34 4 1 rfl (by decide) (by exact (show 1 < 8 by decide)) ((a3, Own.ArrC Z .long [(jJ 0), (jJ 4294967297), (jJ 0), (jJ 0), (jJ 0), (jJ 0), (jJ 0), (jJ 0), (jJ 0), (jJ 0)]) :: (o0, WEo Z (.ref op) (.ref oc) (.ref of') (.ref ol) (.ref a3) (iI 0) (iI 5) (iI 0) (iI 0)) :: (oc, Own.ArrC Z .int [(iI 1), (iI 1), (iI 1), (iI 1), (iI 1), (iI 0), (iI 0), (iI 0)]) :: (of', Own.ArrC Z .int [(.int f0), (.int f1), (.int f2), (.int f3), (.int f4), (iI 0), (iI 0), (iI 0)]) :: (ol, Own.ArrC Z .int [(iI 0), (iI 0), (iI 0), (iI 0), (iI 0), (iI 0), (iI 0), (iI 0)]) :: (ok, Own.ArrC Z .long [(jJ 0), (jJ 0), (jJ 0), (jJ 0)]) :: fr) rfl (hb hby d11_164) rfl ?_
    intro h35 O36
    refine Own.iload hx (1 : Int32) (hb hby d11_165) rfl rfl ?_
    refine Own.iload hx (1 : Int32) (hb hby d11_167) rfl rfl ?_
    refine Own.iadd hx (hb hby d11_169) rfl ?_
    refine Own.vI (2 : Int32) (by decide) ?_
    refine Own.istore hx (2 : Int32) rfl #[.val (.ref o0), .val (.int (0 : Int32)), .val (.int (2 : Int32)), .val (.int (2 : Int32)), .val (.int (2 : Int32)), .val (.int (0 : Int32)), .val (.int (1 : Int32)), .val (.int (1 : Int32)), .val (.int f1)] (hb hby d11_170) rfl rfl ?_
    refine Own.iinc hx (2 : Int32) #[.val (.ref o0), .val (.int (0 : Int32)), .val (.int (2 : Int32)), .val (.int (2 : Int32)), .val (.int (2 : Int32)), .val (.int (0 : Int32)), .val (.int (2 : Int32)), .val (.int (1 : Int32)), .val (.int f1)] (hb hby d11_172) rfl rfl (by decide) rfl ?_
    refine Own.goto hx (hb hby d11_175) (by decide) (pc' := 37) rfl ?_
    refine Own.iload hx (2 : Int32) (hb hby d11_37) rfl rfl ?_
    refine Own.aloadN hx (.ref o0) (hb hby d11_39) rfl rfl rfl ?_
    refine Own.getfield hx hZ hown O36 1 6 rfl rfl (hw _ (wm 55 rfl)) (hb hby d11_40) rfl ?_
    have hc37 : (2 : Int32) < (5 : Int32) := by decide
    refine Own.icmpFn hx (Own.q_ge (2 : Int32) (5 : Int32)) (hb hby d11_43) (pcN := 46) rfl (by decide) (pcT := 178) rfl (fun q => absurd hc37 q) (fun _ => ?_)
    refine Own.aloadN hx (.ref o0) (hb hby d11_46) rfl rfl rfl ?_
    refine Own.getfield hx hZ hown O36 1 1 rfl rfl (hw _ (wm 36 rfl)) (hb hby d11_47) rfl ?_
    refine Own.iload hx (2 : Int32) (hb hby d11_50) rfl rfl ?_
    refine Own.iaload hx hZ O36 2 2 rfl (by decide) (v := (.int (1 : Int32))) rfl (hb hby d11_52) rfl ?_
    refine Own.istore hx (1 : Int32) rfl #[.val (.ref o0), .val (.int (0 : Int32)), .val (.int (2 : Int32)), .val (.int (2 : Int32)), .val (.int (2 : Int32)), .val (.int (0 : Int32)), .val (.int (2 : Int32)), .val (.int (1 : Int32)), .val (.int f1)] (hb hby d11_53) rfl rfl ?_
    refine Own.aloadN hx (.ref o0) (hb hby d11_55) rfl rfl rfl ?_
    refine Own.getfield hx hZ hown O36 1 2 rfl rfl (hw _ (wm 38 rfl)) (hb hby d11_56) rfl ?_
    refine Own.iload hx (2 : Int32) (hb hby d11_59) rfl rfl ?_
    refine Own.iaload hx hZ O36 3 2 rfl (by decide) (v := (.int f2)) rfl (hb hby d11_61) rfl ?_
    refine Own.istore hx f2 rfl #[.val (.ref o0), .val (.int (0 : Int32)), .val (.int (2 : Int32)), .val (.int (2 : Int32)), .val (.int (2 : Int32)), .val (.int (0 : Int32)), .val (.int (2 : Int32)), .val (.int (1 : Int32)), .val (.int f2)] (hb hby d11_62) rfl rfl ?_
    refine Own.iload hx f2 (hb hby d11_64) rfl rfl ?_
    refine Own.iloadN hx (0 : Int32) (hb hby d11_66) rfl rfl ?_
    have hc39 : ¬ (f2 = (0 : Int32)) := hz2
    refine Own.icmpFn hx (Own.q_ne f2 (0 : Int32)) (hb hby d11_67) (pcN := 70) rfl (by decide) (pcT := 76) rfl (fun _ => ?_) (fun q => absurd q hc39)
    refine Own.aloadN hx (.ref o0) (hb hby d11_76) rfl rfl rfl ?_
    refine Own.getfield hx hZ hown O36 1 4 rfl rfl (hw _ (wm 42 rfl)) (hb hby d11_77) rfl ?_
    refine Own.iloadN hx (2 : Int32) (hb hby d11_80) rfl rfl ?_
    refine Own.iinc hx (3 : Int32) #[.val (.ref o0), .val (.int (0 : Int32)), .val (.int (3 : Int32)), .val (.int (2 : Int32)), .val (.int (2 : Int32)), .val (.int (0 : Int32)), .val (.int (2 : Int32)), .val (.int (1 : Int32)), .val (.int f2)] (hb hby d11_81) rfl rfl (by decide) rfl ?_
    refine Own.iload hx (2 : Int32) (hb hby d11_84) rfl rfl ?_
    refine Own.i2l hx (hb hby d11_86) rfl ?_
    refine Own.vL (2 : Int64) (by decide) ?_
    refine Own.bipush hx (32 : Int32) (hb hby d11_87) rfl (by decide) ?_
    refine Own.lshl hx (hb hby d11_89) rfl ?_
    refine Own.vL (8589934592 : Int64) (by decide) ?_
    refine Own.iload hx (2 : Int32) (hb hby d11_90) rfl rfl ?_
    refine Own.iload hx (1 : Int32) (hb hby d11_92) rfl rfl ?_
    refine Own.iadd hx (hb hby d11_94) rfl ?_
    refine Own.vI (3 : Int32) (by decide) ?_
    refine Own.iconst hx (1 : Int32) (hb hby d11_95) rfl (by decide) ?_
    refine Own.isub hx (hb hby d11_96) rfl ?_
    refine Own.vI (2 : Int32) (by decide) ?_
    refine Own.i2l hx (hb hby d11_97) rfl ?_
    refine Own.vL (2 : Int64) (by decide) ?_
    refine Own.lor hx (hb hby d11_98) rfl ?_
    refine Own.vL (8589934594 : Int64) (by decide) ?_
    refine Own.lastore hx hZ O36 0 2 rfl (by decide) (by exact (show 2 < 10 by decide)) ((a3, Own.ArrC Z .long [(jJ 0), (jJ 4294967297), (jJ 8589934594), (jJ 0), (jJ 0), (jJ 0), (jJ 0), (jJ 0), (jJ 0), (jJ 0)]) :: (o0, WEo Z (.ref op) (.ref oc) (.ref of') (.ref ol) (.ref a3) (iI 0) (iI 5) (iI 0) (iI 0)) :: (oc, Own.ArrC Z .int [(iI 1), (iI 1), (iI 1), (iI 1), (iI 1), (iI 0), (iI 0), (iI 0)]) :: (of', Own.ArrC Z .int [(.int f0), (.int f1), (.int f2), (.int f3), (.int f4), (iI 0), (iI 0), (iI 0)]) :: (ol, Own.ArrC Z .int [(iI 0), (iI 0), (iI 0), (iI 0), (iI 0), (iI 0), (iI 0), (iI 0)]) :: (ok, Own.ArrC Z .long [(jJ 0), (jJ 0), (jJ 0), (jJ 0)]) :: fr) rfl (hb hby d11_99) rfl ?_
    intro h41 O42
    refine Own.iloadN hx (2 : Int32) (hb hby d11_100) rfl rfl ?_
    have hc43 : (0 : Int32) < (2 : Int32) := by decide
    refine Own.ifFn hx (Own.z_le (2 : Int32)) (hb hby d11_101) (pcN := 104) rfl (by decide) (pcT := 133) rfl (fun q => absurd hc43 q) (fun _ => ?_)
    refine Own.aloadN hx (.ref o0) (hb hby d11_104) rfl rfl rfl ?_
    refine Own.getfield hx hZ hown O42 1 2 rfl rfl (hw _ (wm 38 rfl)) (hb hby d11_105) rfl ?_
    refine Own.iloadN hx (2 : Int32) (hb hby d11_108) rfl rfl ?_
    refine Own.iconst hx (1 : Int32) (hb hby d11_109) rfl (by decide) ?_
    refine Own.isub hx (hb hby d11_110) rfl ?_
    refine Own.vI (1 : Int32) (by decide) ?_
    refine Own.iaload hx hZ O42 3 1 rfl (by decide) (v := (.int f1)) rfl (hb hby d11_111) rfl ?_
    refine Own.iload hx f2 (hb hby d11_112) rfl rfl ?_
    refine Own.icmpFn hx (Own.q_ne f1 f2) (hb hby d11_114) (pcN := 117) rfl (by decide) (pcT := 133) rfl (fun hc45 => ?_) (fun hc45 => ?_)
    · refine Own.aloadN hx (.ref o0) (hb hby d11_133) rfl rfl rfl ?_
      refine Own.getfield hx hZ hown O42 1 1 rfl rfl (hw _ (wm 36 rfl)) (hb hby d11_134) rfl ?_
      refine Own.iloadN hx (2 : Int32) (hb hby d11_137) rfl rfl ?_
      refine Own.iload hx (1 : Int32) (hb hby d11_138) rfl rfl ?_
      refine Own.iastore hx hZ O42 2 2 rfl (by decide) (by exact (show 2 < 8 by decide)) ((a3, Own.ArrC Z .long [(jJ 0), (jJ 4294967297), (jJ 8589934594), (jJ 0), (jJ 0), (jJ 0), (jJ 0), (jJ 0), (jJ 0), (jJ 0)]) :: (o0, WEo Z (.ref op) (.ref oc) (.ref of') (.ref ol) (.ref a3) (iI 0) (iI 5) (iI 0) (iI 0)) :: (oc, Own.ArrC Z .int [(iI 1), (iI 1), (iI 1), (iI 1), (iI 1), (iI 0), (iI 0), (iI 0)]) :: (of', Own.ArrC Z .int [(.int f0), (.int f1), (.int f2), (.int f3), (.int f4), (iI 0), (iI 0), (iI 0)]) :: (ol, Own.ArrC Z .int [(iI 0), (iI 0), (iI 0), (iI 0), (iI 0), (iI 0), (iI 0), (iI 0)]) :: (ok, Own.ArrC Z .long [(jJ 0), (jJ 0), (jJ 0), (jJ 0)]) :: fr) rfl (hb hby d11_140) rfl ?_
      intro h46 O47
      refine Own.aloadN hx (.ref o0) (hb hby d11_141) rfl rfl rfl ?_
      refine Own.getfield hx hZ hown O47 1 2 rfl rfl (hw _ (wm 38 rfl)) (hb hby d11_142) rfl ?_
      refine Own.iloadN hx (2 : Int32) (hb hby d11_145) rfl rfl ?_
      refine Own.iload hx f2 (hb hby d11_146) rfl rfl ?_
      refine Own.iastore hx hZ O47 3 2 rfl (by decide) (by exact (show 2 < 8 by decide)) ((a3, Own.ArrC Z .long [(jJ 0), (jJ 4294967297), (jJ 8589934594), (jJ 0), (jJ 0), (jJ 0), (jJ 0), (jJ 0), (jJ 0), (jJ 0)]) :: (o0, WEo Z (.ref op) (.ref oc) (.ref of') (.ref ol) (.ref a3) (iI 0) (iI 5) (iI 0) (iI 0)) :: (oc, Own.ArrC Z .int [(iI 1), (iI 1), (iI 1), (iI 1), (iI 1), (iI 0), (iI 0), (iI 0)]) :: (of', Own.ArrC Z .int [(.int f0), (.int f1), (.int f2), (.int f3), (.int f4), (iI 0), (iI 0), (iI 0)]) :: (ol, Own.ArrC Z .int [(iI 0), (iI 0), (iI 0), (iI 0), (iI 0), (iI 0), (iI 0), (iI 0)]) :: (ok, Own.ArrC Z .long [(jJ 0), (jJ 0), (jJ 0), (jJ 0)]) :: fr) rfl (hb hby d11_148) rfl ?_
      intro h48 O49
      refine Own.aloadN hx (.ref o0) (hb hby d11_149) rfl rfl rfl ?_
      refine Own.getfield hx hZ hown O49 1 3 rfl rfl (hw _ (wm 40 rfl)) (hb hby d11_150) rfl ?_
      refine Own.iloadN hx (2 : Int32) (hb hby d11_153) rfl rfl ?_
      refine Own.iinc hx (3 : Int32) #[.val (.ref o0), .val (.int (0 : Int32)), .val (.int (3 : Int32)), .val (.int (3 : Int32)), .val (.int (2 : Int32)), .val (.int (0 : Int32)), .val (.int (2 : Int32)), .val (.int (1 : Int32)), .val (.int f2)] (hb hby d11_154) rfl rfl (by decide) rfl ?_
      refine Own.aloadN hx (.ref o0) (hb hby d11_157) rfl rfl rfl ?_
      refine Own.getfield hx hZ hown O49 1 3 rfl rfl (hw _ (wm 40 rfl)) (hb hby d11_158) rfl ?_
      refine Own.iload hx (2 : Int32) (hb hby d11_161) rfl rfl ?_
      refine Own.iaload hx hZ O49 4 2 rfl (by decide) (v := (.int (0 : Int32))) rfl (hb hby d11_163) rfl ?_
      refine Own.iastore hx hZ O49 4 2 rfl (by decide) (by exact (show 2 < 8 by decide)) ((a3, Own.ArrC Z .long [(jJ 0), (jJ 4294967297), (jJ 8589934594), (jJ 0), (jJ 0), (jJ 0), (jJ 0), (jJ 0), (jJ 0), (jJ 0)]) :: (o0, WEo Z (.ref op) (.ref oc) (.ref of') (.ref ol) (.ref a3) (iI 0) (iI 5) (iI 0) (iI 0)) :: (oc, Own.ArrC Z .int [(iI 1), (iI 1), (iI 1), (iI 1), (iI 1), (iI 0), (iI 0), (iI 0)]) :: (of', Own.ArrC Z .int [(.int f0), (.int f1), (.int f2), (.int f3), (.int f4), (iI 0), (iI 0), (iI 0)]) :: (ol, Own.ArrC Z .int [(iI 0), (iI 0), (iI 0), (iI 0), (iI 0), (iI 0), (iI 0), (iI 0)]) :: (ok, Own.ArrC Z .long [(jJ 0), (jJ 0), (jJ 0), (jJ 0)]) :: fr) rfl (hb hby d11_164) rfl ?_
      intro h50 O51
      refine Own.iload hx (2 : Int32) (hb hby d11_165) rfl rfl ?_
      refine Own.iload hx (1 : Int32) (hb hby d11_167) rfl rfl ?_
      refine Own.iadd hx (hb hby d11_169) rfl ?_
      refine Own.vI (3 : Int32) (by decide) ?_
      refine Own.istore hx (3 : Int32) rfl #[.val (.ref o0), .val (.int (0 : Int32)), .val (.int (3 : Int32)), .val (.int (3 : Int32)), .val (.int (3 : Int32)), .val (.int (0 : Int32)), .val (.int (2 : Int32)), .val (.int (1 : Int32)), .val (.int f2)] (hb hby d11_170) rfl rfl ?_
      refine Own.iinc hx (3 : Int32) #[.val (.ref o0), .val (.int (0 : Int32)), .val (.int (3 : Int32)), .val (.int (3 : Int32)), .val (.int (3 : Int32)), .val (.int (0 : Int32)), .val (.int (3 : Int32)), .val (.int (1 : Int32)), .val (.int f2)] (hb hby d11_172) rfl rfl (by decide) rfl ?_
      refine Own.goto hx (hb hby d11_175) (by decide) (pc' := 37) rfl ?_
      refine Own.iload hx (3 : Int32) (hb hby d11_37) rfl rfl ?_
      refine Own.aloadN hx (.ref o0) (hb hby d11_39) rfl rfl rfl ?_
      refine Own.getfield hx hZ hown O51 1 6 rfl rfl (hw _ (wm 55 rfl)) (hb hby d11_40) rfl ?_
      have hc52 : (3 : Int32) < (5 : Int32) := by decide
      refine Own.icmpFn hx (Own.q_ge (3 : Int32) (5 : Int32)) (hb hby d11_43) (pcN := 46) rfl (by decide) (pcT := 178) rfl (fun q => absurd hc52 q) (fun _ => ?_)
      refine Own.aloadN hx (.ref o0) (hb hby d11_46) rfl rfl rfl ?_
      refine Own.getfield hx hZ hown O51 1 1 rfl rfl (hw _ (wm 36 rfl)) (hb hby d11_47) rfl ?_
      refine Own.iload hx (3 : Int32) (hb hby d11_50) rfl rfl ?_
      refine Own.iaload hx hZ O51 2 3 rfl (by decide) (v := (.int (1 : Int32))) rfl (hb hby d11_52) rfl ?_
      refine Own.istore hx (1 : Int32) rfl #[.val (.ref o0), .val (.int (0 : Int32)), .val (.int (3 : Int32)), .val (.int (3 : Int32)), .val (.int (3 : Int32)), .val (.int (0 : Int32)), .val (.int (3 : Int32)), .val (.int (1 : Int32)), .val (.int f2)] (hb hby d11_53) rfl rfl ?_
      refine Own.aloadN hx (.ref o0) (hb hby d11_55) rfl rfl rfl ?_
      refine Own.getfield hx hZ hown O51 1 2 rfl rfl (hw _ (wm 38 rfl)) (hb hby d11_56) rfl ?_
      refine Own.iload hx (3 : Int32) (hb hby d11_59) rfl rfl ?_
      refine Own.iaload hx hZ O51 3 3 rfl (by decide) (v := (.int f3)) rfl (hb hby d11_61) rfl ?_
      refine Own.istore hx f3 rfl #[.val (.ref o0), .val (.int (0 : Int32)), .val (.int (3 : Int32)), .val (.int (3 : Int32)), .val (.int (3 : Int32)), .val (.int (0 : Int32)), .val (.int (3 : Int32)), .val (.int (1 : Int32)), .val (.int f3)] (hb hby d11_62) rfl rfl ?_
      refine Own.iload hx f3 (hb hby d11_64) rfl rfl ?_
      refine Own.iloadN hx (0 : Int32) (hb hby d11_66) rfl rfl ?_
      have hc54 : ¬ (f3 = (0 : Int32)) := hz3
      refine Own.icmpFn hx (Own.q_ne f3 (0 : Int32)) (hb hby d11_67) (pcN := 70) rfl (by decide) (pcT := 76) rfl (fun _ => ?_) (fun q => absurd q hc54)
      refine Own.aloadN hx (.ref o0) (hb hby d11_76) rfl rfl rfl ?_
      refine Own.getfield hx hZ hown O51 1 4 rfl rfl (hw _ (wm 42 rfl)) (hb hby d11_77) rfl ?_
      refine Own.iloadN hx (3 : Int32) (hb hby d11_80) rfl rfl ?_
      refine Own.iinc hx (4 : Int32) #[.val (.ref o0), .val (.int (0 : Int32)), .val (.int (4 : Int32)), .val (.int (3 : Int32)), .val (.int (3 : Int32)), .val (.int (0 : Int32)), .val (.int (3 : Int32)), .val (.int (1 : Int32)), .val (.int f3)] (hb hby d11_81) rfl rfl (by decide) rfl ?_
      refine Own.iload hx (3 : Int32) (hb hby d11_84) rfl rfl ?_
      refine Own.i2l hx (hb hby d11_86) rfl ?_
      refine Own.vL (3 : Int64) (by decide) ?_
      refine Own.bipush hx (32 : Int32) (hb hby d11_87) rfl (by decide) ?_
      refine Own.lshl hx (hb hby d11_89) rfl ?_
      refine Own.vL (12884901888 : Int64) (by decide) ?_
      refine Own.iload hx (3 : Int32) (hb hby d11_90) rfl rfl ?_
      refine Own.iload hx (1 : Int32) (hb hby d11_92) rfl rfl ?_
      refine Own.iadd hx (hb hby d11_94) rfl ?_
      refine Own.vI (4 : Int32) (by decide) ?_
      refine Own.iconst hx (1 : Int32) (hb hby d11_95) rfl (by decide) ?_
      refine Own.isub hx (hb hby d11_96) rfl ?_
      refine Own.vI (3 : Int32) (by decide) ?_
      refine Own.i2l hx (hb hby d11_97) rfl ?_
      refine Own.vL (3 : Int64) (by decide) ?_
      refine Own.lor hx (hb hby d11_98) rfl ?_
      refine Own.vL (12884901891 : Int64) (by decide) ?_
      refine Own.lastore hx hZ O51 0 3 rfl (by decide) (by exact (show 3 < 10 by decide)) ((a3, Own.ArrC Z .long [(jJ 0), (jJ 4294967297), (jJ 8589934594), (jJ 12884901891), (jJ 0), (jJ 0), (jJ 0), (jJ 0), (jJ 0), (jJ 0)]) :: (o0, WEo Z (.ref op) (.ref oc) (.ref of') (.ref ol) (.ref a3) (iI 0) (iI 5) (iI 0) (iI 0)) :: (oc, Own.ArrC Z .int [(iI 1), (iI 1), (iI 1), (iI 1), (iI 1), (iI 0), (iI 0), (iI 0)]) :: (of', Own.ArrC Z .int [(.int f0), (.int f1), (.int f2), (.int f3), (.int f4), (iI 0), (iI 0), (iI 0)]) :: (ol, Own.ArrC Z .int [(iI 0), (iI 0), (iI 0), (iI 0), (iI 0), (iI 0), (iI 0), (iI 0)]) :: (ok, Own.ArrC Z .long [(jJ 0), (jJ 0), (jJ 0), (jJ 0)]) :: fr) rfl (hb hby d11_99) rfl ?_
      intro h56 O57
      refine Own.iloadN hx (3 : Int32) (hb hby d11_100) rfl rfl ?_
      have hc58 : (0 : Int32) < (3 : Int32) := by decide
      refine Own.ifFn hx (Own.z_le (3 : Int32)) (hb hby d11_101) (pcN := 104) rfl (by decide) (pcT := 133) rfl (fun q => absurd hc58 q) (fun _ => ?_)
      refine Own.aloadN hx (.ref o0) (hb hby d11_104) rfl rfl rfl ?_
      refine Own.getfield hx hZ hown O57 1 2 rfl rfl (hw _ (wm 38 rfl)) (hb hby d11_105) rfl ?_
      refine Own.iloadN hx (3 : Int32) (hb hby d11_108) rfl rfl ?_
      refine Own.iconst hx (1 : Int32) (hb hby d11_109) rfl (by decide) ?_
      refine Own.isub hx (hb hby d11_110) rfl ?_
      refine Own.vI (2 : Int32) (by decide) ?_
      refine Own.iaload hx hZ O57 3 2 rfl (by decide) (v := (.int f2)) rfl (hb hby d11_111) rfl ?_
      refine Own.iload hx f3 (hb hby d11_112) rfl rfl ?_
      refine Own.icmpFn hx (Own.q_ne f2 f3) (hb hby d11_114) (pcN := 117) rfl (by decide) (pcT := 133) rfl (fun hc60 => ?_) (fun hc60 => ?_)
      · refine Own.aloadN hx (.ref o0) (hb hby d11_133) rfl rfl rfl ?_
        refine Own.getfield hx hZ hown O57 1 1 rfl rfl (hw _ (wm 36 rfl)) (hb hby d11_134) rfl ?_
        refine Own.iloadN hx (3 : Int32) (hb hby d11_137) rfl rfl ?_
        refine Own.iload hx (1 : Int32) (hb hby d11_138) rfl rfl ?_
        refine Own.iastore hx hZ O57 2 3 rfl (by decide) (by exact (show 3 < 8 by decide)) ((a3, Own.ArrC Z .long [(jJ 0), (jJ 4294967297), (jJ 8589934594), (jJ 12884901891), (jJ 0), (jJ 0), (jJ 0), (jJ 0), (jJ 0), (jJ 0)]) :: (o0, WEo Z (.ref op) (.ref oc) (.ref of') (.ref ol) (.ref a3) (iI 0) (iI 5) (iI 0) (iI 0)) :: (oc, Own.ArrC Z .int [(iI 1), (iI 1), (iI 1), (iI 1), (iI 1), (iI 0), (iI 0), (iI 0)]) :: (of', Own.ArrC Z .int [(.int f0), (.int f1), (.int f2), (.int f3), (.int f4), (iI 0), (iI 0), (iI 0)]) :: (ol, Own.ArrC Z .int [(iI 0), (iI 0), (iI 0), (iI 0), (iI 0), (iI 0), (iI 0), (iI 0)]) :: (ok, Own.ArrC Z .long [(jJ 0), (jJ 0), (jJ 0), (jJ 0)]) :: fr) rfl (hb hby d11_140) rfl ?_
        intro h61 O62
        refine Own.aloadN hx (.ref o0) (hb hby d11_141) rfl rfl rfl ?_
        refine Own.getfield hx hZ hown O62 1 2 rfl rfl (hw _ (wm 38 rfl)) (hb hby d11_142) rfl ?_
        refine Own.iloadN hx (3 : Int32) (hb hby d11_145) rfl rfl ?_
        refine Own.iload hx f3 (hb hby d11_146) rfl rfl ?_
        refine Own.iastore hx hZ O62 3 3 rfl (by decide) (by exact (show 3 < 8 by decide)) ((a3, Own.ArrC Z .long [(jJ 0), (jJ 4294967297), (jJ 8589934594), (jJ 12884901891), (jJ 0), (jJ 0), (jJ 0), (jJ 0), (jJ 0), (jJ 0)]) :: (o0, WEo Z (.ref op) (.ref oc) (.ref of') (.ref ol) (.ref a3) (iI 0) (iI 5) (iI 0) (iI 0)) :: (oc, Own.ArrC Z .int [(iI 1), (iI 1), (iI 1), (iI 1), (iI 1), (iI 0), (iI 0), (iI 0)]) :: (of', Own.ArrC Z .int [(.int f0), (.int f1), (.int f2), (.int f3), (.int f4), (iI 0), (iI 0), (iI 0)]) :: (ol, Own.ArrC Z .int [(iI 0), (iI 0), (iI 0), (iI 0), (iI 0), (iI 0), (iI 0), (iI 0)]) :: (ok, Own.ArrC Z .long [(jJ 0), (jJ 0), (jJ 0), (jJ 0)]) :: fr) rfl (hb hby d11_148) rfl ?_
        intro h63 O64
        refine Own.aloadN hx (.ref o0) (hb hby d11_149) rfl rfl rfl ?_
        refine Own.getfield hx hZ hown O64 1 3 rfl rfl (hw _ (wm 40 rfl)) (hb hby d11_150) rfl ?_
        refine Own.iloadN hx (3 : Int32) (hb hby d11_153) rfl rfl ?_
        refine Own.iinc hx (4 : Int32) #[.val (.ref o0), .val (.int (0 : Int32)), .val (.int (4 : Int32)), .val (.int (4 : Int32)), .val (.int (3 : Int32)), .val (.int (0 : Int32)), .val (.int (3 : Int32)), .val (.int (1 : Int32)), .val (.int f3)] (hb hby d11_154) rfl rfl (by decide) rfl ?_
        refine Own.aloadN hx (.ref o0) (hb hby d11_157) rfl rfl rfl ?_
        refine Own.getfield hx hZ hown O64 1 3 rfl rfl (hw _ (wm 40 rfl)) (hb hby d11_158) rfl ?_
        refine Own.iload hx (3 : Int32) (hb hby d11_161) rfl rfl ?_
        refine Own.iaload hx hZ O64 4 3 rfl (by decide) (v := (.int (0 : Int32))) rfl (hb hby d11_163) rfl ?_
        refine Own.iastore hx hZ O64 4 3 rfl (by decide) (by exact (show 3 < 8 by decide)) ((a3, Own.ArrC Z .long [(jJ 0), (jJ 4294967297), (jJ 8589934594), (jJ 12884901891), (jJ 0), (jJ 0), (jJ 0), (jJ 0), (jJ 0), (jJ 0)]) :: (o0, WEo Z (.ref op) (.ref oc) (.ref of') (.ref ol) (.ref a3) (iI 0) (iI 5) (iI 0) (iI 0)) :: (oc, Own.ArrC Z .int [(iI 1), (iI 1), (iI 1), (iI 1), (iI 1), (iI 0), (iI 0), (iI 0)]) :: (of', Own.ArrC Z .int [(.int f0), (.int f1), (.int f2), (.int f3), (.int f4), (iI 0), (iI 0), (iI 0)]) :: (ol, Own.ArrC Z .int [(iI 0), (iI 0), (iI 0), (iI 0), (iI 0), (iI 0), (iI 0), (iI 0)]) :: (ok, Own.ArrC Z .long [(jJ 0), (jJ 0), (jJ 0), (jJ 0)]) :: fr) rfl (hb hby d11_164) rfl ?_
        intro h65 O66
        refine Own.iload hx (3 : Int32) (hb hby d11_165) rfl rfl ?_
        refine Own.iload hx (1 : Int32) (hb hby d11_167) rfl rfl ?_
        refine Own.iadd hx (hb hby d11_169) rfl ?_
        refine Own.vI (4 : Int32) (by decide) ?_
        refine Own.istore hx (4 : Int32) rfl #[.val (.ref o0), .val (.int (0 : Int32)), .val (.int (4 : Int32)), .val (.int (4 : Int32)), .val (.int (4 : Int32)), .val (.int (0 : Int32)), .val (.int (3 : Int32)), .val (.int (1 : Int32)), .val (.int f3)] (hb hby d11_170) rfl rfl ?_
        refine Own.iinc hx (4 : Int32) #[.val (.ref o0), .val (.int (0 : Int32)), .val (.int (4 : Int32)), .val (.int (4 : Int32)), .val (.int (4 : Int32)), .val (.int (0 : Int32)), .val (.int (4 : Int32)), .val (.int (1 : Int32)), .val (.int f3)] (hb hby d11_172) rfl rfl (by decide) rfl ?_
        refine Own.goto hx (hb hby d11_175) (by decide) (pc' := 37) rfl ?_
        refine Own.iload hx (4 : Int32) (hb hby d11_37) rfl rfl ?_
        refine Own.aloadN hx (.ref o0) (hb hby d11_39) rfl rfl rfl ?_
        refine Own.getfield hx hZ hown O66 1 6 rfl rfl (hw _ (wm 55 rfl)) (hb hby d11_40) rfl ?_
        have hc67 : (4 : Int32) < (5 : Int32) := by decide
        refine Own.icmpFn hx (Own.q_ge (4 : Int32) (5 : Int32)) (hb hby d11_43) (pcN := 46) rfl (by decide) (pcT := 178) rfl (fun q => absurd hc67 q) (fun _ => ?_)
        refine Own.aloadN hx (.ref o0) (hb hby d11_46) rfl rfl rfl ?_
        refine Own.getfield hx hZ hown O66 1 1 rfl rfl (hw _ (wm 36 rfl)) (hb hby d11_47) rfl ?_
        refine Own.iload hx (4 : Int32) (hb hby d11_50) rfl rfl ?_
        refine Own.iaload hx hZ O66 2 4 rfl (by decide) (v := (.int (1 : Int32))) rfl (hb hby d11_52) rfl ?_
        refine Own.istore hx (1 : Int32) rfl #[.val (.ref o0), .val (.int (0 : Int32)), .val (.int (4 : Int32)), .val (.int (4 : Int32)), .val (.int (4 : Int32)), .val (.int (0 : Int32)), .val (.int (4 : Int32)), .val (.int (1 : Int32)), .val (.int f3)] (hb hby d11_53) rfl rfl ?_
        refine Own.aloadN hx (.ref o0) (hb hby d11_55) rfl rfl rfl ?_
        refine Own.getfield hx hZ hown O66 1 2 rfl rfl (hw _ (wm 38 rfl)) (hb hby d11_56) rfl ?_
        refine Own.iload hx (4 : Int32) (hb hby d11_59) rfl rfl ?_
        refine Own.iaload hx hZ O66 3 4 rfl (by decide) (v := (.int f4)) rfl (hb hby d11_61) rfl ?_
        refine Own.istore hx f4 rfl #[.val (.ref o0), .val (.int (0 : Int32)), .val (.int (4 : Int32)), .val (.int (4 : Int32)), .val (.int (4 : Int32)), .val (.int (0 : Int32)), .val (.int (4 : Int32)), .val (.int (1 : Int32)), .val (.int f4)] (hb hby d11_62) rfl rfl ?_
        refine Own.iload hx f4 (hb hby d11_64) rfl rfl ?_
        refine Own.iloadN hx (0 : Int32) (hb hby d11_66) rfl rfl ?_
        have hc69 : ¬ (f4 = (0 : Int32)) := hz4
        refine Own.icmpFn hx (Own.q_ne f4 (0 : Int32)) (hb hby d11_67) (pcN := 70) rfl (by decide) (pcT := 76) rfl (fun _ => ?_) (fun q => absurd q hc69)
        refine Own.aloadN hx (.ref o0) (hb hby d11_76) rfl rfl rfl ?_
        refine Own.getfield hx hZ hown O66 1 4 rfl rfl (hw _ (wm 42 rfl)) (hb hby d11_77) rfl ?_
        refine Own.iloadN hx (4 : Int32) (hb hby d11_80) rfl rfl ?_
        refine Own.iinc hx (5 : Int32) #[.val (.ref o0), .val (.int (0 : Int32)), .val (.int (5 : Int32)), .val (.int (4 : Int32)), .val (.int (4 : Int32)), .val (.int (0 : Int32)), .val (.int (4 : Int32)), .val (.int (1 : Int32)), .val (.int f4)] (hb hby d11_81) rfl rfl (by decide) rfl ?_
        refine Own.iload hx (4 : Int32) (hb hby d11_84) rfl rfl ?_
        refine Own.i2l hx (hb hby d11_86) rfl ?_
        refine Own.vL (4 : Int64) (by decide) ?_
        refine Own.bipush hx (32 : Int32) (hb hby d11_87) rfl (by decide) ?_
        refine Own.lshl hx (hb hby d11_89) rfl ?_
        refine Own.vL (17179869184 : Int64) (by decide) ?_
        refine Own.iload hx (4 : Int32) (hb hby d11_90) rfl rfl ?_
        refine Own.iload hx (1 : Int32) (hb hby d11_92) rfl rfl ?_
        refine Own.iadd hx (hb hby d11_94) rfl ?_
        refine Own.vI (5 : Int32) (by decide) ?_
        refine Own.iconst hx (1 : Int32) (hb hby d11_95) rfl (by decide) ?_
        refine Own.isub hx (hb hby d11_96) rfl ?_
        refine Own.vI (4 : Int32) (by decide) ?_
        refine Own.i2l hx (hb hby d11_97) rfl ?_
        refine Own.vL (4 : Int64) (by decide) ?_
        refine Own.lor hx (hb hby d11_98) rfl ?_
        refine Own.vL (17179869188 : Int64) (by decide) ?_
        refine Own.lastore hx hZ O66 0 4 rfl (by decide) (by exact (show 4 < 10 by decide)) ((a3, Own.ArrC Z .long [(jJ 0), (jJ 4294967297), (jJ 8589934594), (jJ 12884901891), (jJ 17179869188), (jJ 0), (jJ 0), (jJ 0), (jJ 0), (jJ 0)]) :: (o0, WEo Z (.ref op) (.ref oc) (.ref of') (.ref ol) (.ref a3) (iI 0) (iI 5) (iI 0) (iI 0)) :: (oc, Own.ArrC Z .int [(iI 1), (iI 1), (iI 1), (iI 1), (iI 1), (iI 0), (iI 0), (iI 0)]) :: (of', Own.ArrC Z .int [(.int f0), (.int f1), (.int f2), (.int f3), (.int f4), (iI 0), (iI 0), (iI 0)]) :: (ol, Own.ArrC Z .int [(iI 0), (iI 0), (iI 0), (iI 0), (iI 0), (iI 0), (iI 0), (iI 0)]) :: (ok, Own.ArrC Z .long [(jJ 0), (jJ 0), (jJ 0), (jJ 0)]) :: fr) rfl (hb hby d11_99) rfl ?_
        intro h71 O72
        refine Own.iloadN hx (4 : Int32) (hb hby d11_100) rfl rfl ?_
        have hc73 : (0 : Int32) < (4 : Int32) := by decide
        refine Own.ifFn hx (Own.z_le (4 : Int32)) (hb hby d11_101) (pcN := 104) rfl (by decide) (pcT := 133) rfl (fun q => absurd hc73 q) (fun _ => ?_)
        refine Own.aloadN hx (.ref o0) (hb hby d11_104) rfl rfl rfl ?_
        refine Own.getfield hx hZ hown O72 1 2 rfl rfl (hw _ (wm 38 rfl)) (hb hby d11_105) rfl ?_
        refine Own.iloadN hx (4 : Int32) (hb hby d11_108) rfl rfl ?_
        refine Own.iconst hx (1 : Int32) (hb hby d11_109) rfl (by decide) ?_
        refine Own.isub hx (hb hby d11_110) rfl ?_
        refine Own.vI (3 : Int32) (by decide) ?_
        refine Own.iaload hx hZ O72 3 3 rfl (by decide) (v := (.int f3)) rfl (hb hby d11_111) rfl ?_
        refine Own.iload hx f4 (hb hby d11_112) rfl rfl ?_
        refine Own.icmpFn hx (Own.q_ne f3 f4) (hb hby d11_114) (pcN := 117) rfl (by decide) (pcT := 133) rfl (fun hc75 => ?_) (fun hc75 => ?_)
        · refine Own.aloadN hx (.ref o0) (hb hby d11_133) rfl rfl rfl ?_
          refine Own.getfield hx hZ hown O72 1 1 rfl rfl (hw _ (wm 36 rfl)) (hb hby d11_134) rfl ?_
          refine Own.iloadN hx (4 : Int32) (hb hby d11_137) rfl rfl ?_
          refine Own.iload hx (1 : Int32) (hb hby d11_138) rfl rfl ?_
          refine Own.iastore hx hZ O72 2 4 rfl (by decide) (by exact (show 4 < 8 by decide)) ((a3, Own.ArrC Z .long [(jJ 0), (jJ 4294967297), (jJ 8589934594), (jJ 12884901891), (jJ 17179869188), (jJ 0), (jJ 0), (jJ 0), (jJ 0), (jJ 0)]) :: (o0, WEo Z (.ref op) (.ref oc) (.ref of') (.ref ol) (.ref a3) (iI 0) (iI 5) (iI 0) (iI 0)) :: (oc, Own.ArrC Z .int [(iI 1), (iI 1), (iI 1), (iI 1), (iI 1), (iI 0), (iI 0), (iI 0)]) :: (of', Own.ArrC Z .int [(.int f0), (.int f1), (.int f2), (.int f3), (.int f4), (iI 0), (iI 0), (iI 0)]) :: (ol, Own.ArrC Z .int [(iI 0), (iI 0), (iI 0), (iI 0), (iI 0), (iI 0), (iI 0), (iI 0)]) :: (ok, Own.ArrC Z .long [(jJ 0), (jJ 0), (jJ 0), (jJ 0)]) :: fr) rfl (hb hby d11_140) rfl ?_
          intro h76 O77
          refine Own.aloadN hx (.ref o0) (hb hby d11_141) rfl rfl rfl ?_
          refine Own.getfield hx hZ hown O77 1 2 rfl rfl (hw _ (wm 38 rfl)) (hb hby d11_142) rfl ?_
          refine Own.iloadN hx (4 : Int32) (hb hby d11_145) rfl rfl ?_
          refine Own.iload hx f4 (hb hby d11_146) rfl rfl ?_
          refine Own.iastore hx hZ O77 3 4 rfl (by decide) (by exact (show 4 < 8 by decide)) ((a3, Own.ArrC Z .long [(jJ 0), (jJ 4294967297), (jJ 8589934594), (jJ 12884901891), (jJ 17179869188), (jJ 0), (jJ 0), (jJ 0), (jJ 0), (jJ 0)]) :: (o0, WEo Z (.ref op) (.ref oc) (.ref of') (.ref ol) (.ref a3) (iI 0) (iI 5) (iI 0) (iI 0)) :: (oc, Own.ArrC Z .int [(iI 1), (iI 1), (iI 1), (iI 1), (iI 1), (iI 0), (iI 0), (iI 0)]) :: (of', Own.ArrC Z .int [(.int f0), (.int f1), (.int f2), (.int f3), (.int f4), (iI 0), (iI 0), (iI 0)]) :: (ol, Own.ArrC Z .int [(iI 0), (iI 0), (iI 0), (iI 0), (iI 0), (iI 0), (iI 0), (iI 0)]) :: (ok, Own.ArrC Z .long [(jJ 0), (jJ 0), (jJ 0), (jJ 0)]) :: fr) rfl (hb hby d11_148) rfl ?_
          intro h78 O79
          refine Own.aloadN hx (.ref o0) (hb hby d11_149) rfl rfl rfl ?_
          refine Own.getfield hx hZ hown O79 1 3 rfl rfl (hw _ (wm 40 rfl)) (hb hby d11_150) rfl ?_
          refine Own.iloadN hx (4 : Int32) (hb hby d11_153) rfl rfl ?_
          refine Own.iinc hx (5 : Int32) #[.val (.ref o0), .val (.int (0 : Int32)), .val (.int (5 : Int32)), .val (.int (5 : Int32)), .val (.int (4 : Int32)), .val (.int (0 : Int32)), .val (.int (4 : Int32)), .val (.int (1 : Int32)), .val (.int f4)] (hb hby d11_154) rfl rfl (by decide) rfl ?_
          refine Own.aloadN hx (.ref o0) (hb hby d11_157) rfl rfl rfl ?_
          refine Own.getfield hx hZ hown O79 1 3 rfl rfl (hw _ (wm 40 rfl)) (hb hby d11_158) rfl ?_
          refine Own.iload hx (4 : Int32) (hb hby d11_161) rfl rfl ?_
          refine Own.iaload hx hZ O79 4 4 rfl (by decide) (v := (.int (0 : Int32))) rfl (hb hby d11_163) rfl ?_
          refine Own.iastore hx hZ O79 4 4 rfl (by decide) (by exact (show 4 < 8 by decide)) ((a3, Own.ArrC Z .long [(jJ 0), (jJ 4294967297), (jJ 8589934594), (jJ 12884901891), (jJ 17179869188), (jJ 0), (jJ 0), (jJ 0), (jJ 0), (jJ 0)]) :: (o0, WEo Z (.ref op) (.ref oc) (.ref of') (.ref ol) (.ref a3) (iI 0) (iI 5) (iI 0) (iI 0)) :: (oc, Own.ArrC Z .int [(iI 1), (iI 1), (iI 1), (iI 1), (iI 1), (iI 0), (iI 0), (iI 0)]) :: (of', Own.ArrC Z .int [(.int f0), (.int f1), (.int f2), (.int f3), (.int f4), (iI 0), (iI 0), (iI 0)]) :: (ol, Own.ArrC Z .int [(iI 0), (iI 0), (iI 0), (iI 0), (iI 0), (iI 0), (iI 0), (iI 0)]) :: (ok, Own.ArrC Z .long [(jJ 0), (jJ 0), (jJ 0), (jJ 0)]) :: fr) rfl (hb hby d11_164) rfl ?_
          intro h80 O81
          refine Own.iload hx (4 : Int32) (hb hby d11_165) rfl rfl ?_
          refine Own.iload hx (1 : Int32) (hb hby d11_167) rfl rfl ?_
          refine Own.iadd hx (hb hby d11_169) rfl ?_
          refine Own.vI (5 : Int32) (by decide) ?_
          refine Own.istore hx (5 : Int32) rfl #[.val (.ref o0), .val (.int (0 : Int32)), .val (.int (5 : Int32)), .val (.int (5 : Int32)), .val (.int (5 : Int32)), .val (.int (0 : Int32)), .val (.int (4 : Int32)), .val (.int (1 : Int32)), .val (.int f4)] (hb hby d11_170) rfl rfl ?_
          refine Own.iinc hx (5 : Int32) #[.val (.ref o0), .val (.int (0 : Int32)), .val (.int (5 : Int32)), .val (.int (5 : Int32)), .val (.int (5 : Int32)), .val (.int (0 : Int32)), .val (.int (5 : Int32)), .val (.int (1 : Int32)), .val (.int f4)] (hb hby d11_172) rfl rfl (by decide) rfl ?_
          refine Own.goto hx (hb hby d11_175) (by decide) (pc' := 37) rfl ?_
          refine Own.iload hx (5 : Int32) (hb hby d11_37) rfl rfl ?_
          refine Own.aloadN hx (.ref o0) (hb hby d11_39) rfl rfl rfl ?_
          refine Own.getfield hx hZ hown O81 1 6 rfl rfl (hw _ (wm 55 rfl)) (hb hby d11_40) rfl ?_
          have hc82 : ¬ ((5 : Int32) < (5 : Int32)) := by decide
          refine Own.icmpFn hx (Own.q_ge (5 : Int32) (5 : Int32)) (hb hby d11_43) (pcN := 46) rfl (by decide) (pcT := 178) rfl (fun _ => ?_) (fun q => absurd q hc82)
          refine Own.iload hx (0 : Int32) (hb hby d11_178) rfl rfl ?_
          have hc84 : (0 : Int32) = (0 : Int32) := by decide
          refine Own.ifF hx (Own.z_eq (0 : Int32)) (hb hby d11_180) (pcN := 183) rfl (by decide) (pcT := 199) rfl (fun _ => ?_) (fun q => absurd hc84 q)
          refine Own.aloadN hx (.ref o0) (hb hby d11_199) rfl rfl rfl ?_
          refine Own.iloadN hx (5 : Int32) (hb hby d11_200) rfl rfl ?_
          refine Own.putfield hx hZ hown O81 1 6 rfl rfl (hw _ (wm 55 rfl)) (Or.inl (hw _ (wm 56 rfl))) (hw _ (wm 2 rfl)) (ty := .int) (by decide) rfl rfl ((a3, Own.ArrC Z .long [(jJ 0), (jJ 4294967297), (jJ 8589934594), (jJ 12884901891), (jJ 17179869188), (jJ 0), (jJ 0), (jJ 0), (jJ 0), (jJ 0)]) :: (o0, WEo Z (.ref op) (.ref oc) (.ref of') (.ref ol) (.ref a3) (iI 0) (iI 5) (iI 0) (iI 0)) :: (oc, Own.ArrC Z .int [(iI 1), (iI 1), (iI 1), (iI 1), (iI 1), (iI 0), (iI 0), (iI 0)]) :: (of', Own.ArrC Z .int [(.int f0), (.int f1), (.int f2), (.int f3), (.int f4), (iI 0), (iI 0), (iI 0)]) :: (ol, Own.ArrC Z .int [(iI 0), (iI 0), (iI 0), (iI 0), (iI 0), (iI 0), (iI 0), (iI 0)]) :: (ok, Own.ArrC Z .long [(jJ 0), (jJ 0), (jJ 0), (jJ 0)]) :: fr) rfl (hb hby d11_201) rfl ?_
          intro h86 O87
          refine Own.aloadN hx (.ref o0) (hb hby d11_204) rfl rfl rfl ?_
          have O88 : Own.Owns n0 h86 ((o0, WEo Z (.ref op) (.ref oc) (.ref of') (.ref ol) (.ref a3) (iI 0) (iI 5) (iI 0) (iI 0)) :: (a3, Own.ArrC Z .long [(jJ 0), (jJ 4294967297), (jJ 8589934594), (jJ 12884901891), (jJ 17179869188), (jJ 0), (jJ 0), (jJ 0), (jJ 0), (jJ 0)]) :: (oc, Own.ArrC Z .int [(iI 1), (iI 1), (iI 1), (iI 1), (iI 1), (iI 0), (iI 0), (iI 0)]) :: (of', Own.ArrC Z .int [(.int f0), (.int f1), (.int f2), (.int f3), (.int f4), (iI 0), (iI 0), (iI 0)]) :: (ol, Own.ArrC Z .int [(iI 0), (iI 0), (iI 0), (iI 0), (iI 0), (iI 0), (iI 0), (iI 0)]) :: (ok, Own.ArrC Z .long [(jJ 0), (jJ 0), (jJ 0), (jJ 0)]) :: fr) := O87.pick 1 rfl
          refine Own.callP hx hZ hown (O88.exa (i := 0) rfl) (hw _ (wm 90 rfl)) (hw _ (wm 91 rfl)) (hw _ (wm 2 rfl)) (hw _ (wm 92 rfl)) (hw _ (wm 3 rfl)) (hw _ (wm 93 rfl)) (by decide) pd0 (argsL := []) (rest := []) rfl (W := 0) (Nat.le_of_eq rfl) (rm := ({ frames := 0, cells := 0, slots := 0, locals := 0 } : Room)) (by decide) (by decide) (by decide) (by decide) (k' := 1) (n' := 10) rfl rfl (by rw [hml]; rfl) [(.ref o0)] rfl (hb hby d11_205) (pc' := 208) rfl (rm12 l Z a0 hw o0 h86 n0 op oc of' ol a3 (5 : Int32) (0 : Int32) (0 : Int32) ((a3, Own.ArrC Z .long [(jJ 0), (jJ 4294967297), (jJ 8589934594), (jJ 12884901891), (jJ 17179869188), (jJ 0), (jJ 0), (jJ 0), (jJ 0), (jJ 0)]) :: (oc, Own.ArrC Z .int [(iI 1), (iI 1), (iI 1), (iI 1), (iI 1), (iI 0), (iI 0), (iI 0)]) :: (of', Own.ArrC Z .int [(.int f0), (.int f1), (.int f2), (.int f3), (.int f4), (iI 0), (iI 0), (iI 0)]) :: (ol, Own.ArrC Z .int [(iI 0), (iI 0), (iI 0), (iI 0), (iI 0), (iI 0), (iI 0), (iI 0)]) :: (ok, Own.ArrC Z .long [(jJ 0), (jJ 0), (jJ 0), (jJ 0)]) :: fr) O88) ?_
          rintro _ h89 ⟨rfl, O90⟩
          show Own.Goes _ _ _ _ _ _ _ _ _ _ _ _ _ _ _ _ _ (mkF m 208 #[.val (.ref o0), .val (.int (0 : Int32)), .val (.int (5 : Int32)), .val (.int (5 : Int32)), .val (.int (5 : Int32)), .val (.int (0 : Int32)), .val (.int (5 : Int32)), .val (.int (1 : Int32)), .val (.int f4)] [])
          have O91 : Own.Owns n0 h89 ((oc, Own.ArrC Z .int [(iI 1), (iI 1), (iI 1), (iI 1), (iI 1), (iI 0), (iI 0), (iI 0)]) :: (o0, WEo Z (.ref op) (.ref oc) (.ref of') (.ref ol) (.ref a3) (iI 0) (iI 5) (iI 0) (iI 0)) :: (a3, Own.ArrC Z .long [(jJ 0), (jJ 4294967297), (jJ 8589934594), (jJ 12884901891), (jJ 17179869188), (jJ 0), (jJ 0), (jJ 0), (jJ 0), (jJ 0)]) :: (of', Own.ArrC Z .int [(.int f0), (.int f1), (.int f2), (.int f3), (.int f4), (iI 0), (iI 0), (iI 0)]) :: (ol, Own.ArrC Z .int [(iI 0), (iI 0), (iI 0), (iI 0), (iI 0), (iI 0), (iI 0), (iI 0)]) :: (ok, Own.ArrC Z .long [(jJ 0), (jJ 0), (jJ 0), (jJ 0)]) :: fr) := O90.pick 2 rfl
          have O92 : Own.Owns n0 h89 ((o0, WEo Z (.ref op) (.ref oc) (.ref of') (.ref ol) (.ref a3) (iI 0) (iI 5) (iI 0) (iI 0)) :: (oc, Own.ArrC Z .int [(iI 1), (iI 1), (iI 1), (iI 1), (iI 1), (iI 0), (iI 0), (iI 0)]) :: (a3, Own.ArrC Z .long [(jJ 0), (jJ 4294967297), (jJ 8589934594), (jJ 12884901891), (jJ 17179869188), (jJ 0), (jJ 0), (jJ 0), (jJ 0), (jJ 0)]) :: (of', Own.ArrC Z .int [(.int f0), (.int f1), (.int f2), (.int f3), (.int f4), (iI 0), (iI 0), (iI 0)]) :: (ol, Own.ArrC Z .int [(iI 0), (iI 0), (iI 0), (iI 0), (iI 0), (iI 0), (iI 0), (iI 0)]) :: (ok, Own.ArrC Z .long [(jJ 0), (jJ 0), (jJ 0), (jJ 0)]) :: fr) := O91.pick 1 rfl
          have O93 : Own.Owns n0 h89 ((ok, Own.ArrC Z .long [(jJ 0), (jJ 0), (jJ 0), (jJ 0)]) :: (o0, WEo Z (.ref op) (.ref oc) (.ref of') (.ref ol) (.ref a3) (iI 0) (iI 5) (iI 0) (iI 0)) :: (oc, Own.ArrC Z .int [(iI 1), (iI 1), (iI 1), (iI 1), (iI 1), (iI 0), (iI 0), (iI 0)]) :: (a3, Own.ArrC Z .long [(jJ 0), (jJ 4294967297), (jJ 8589934594), (jJ 12884901891), (jJ 17179869188), (jJ 0), (jJ 0), (jJ 0), (jJ 0), (jJ 0)]) :: (of', Own.ArrC Z .int [(.int f0), (.int f1), (.int f2), (.int f3), (.int f4), (iI 0), (iI 0), (iI 0)]) :: (ol, Own.ArrC Z .int [(iI 0), (iI 0), (iI 0), (iI 0), (iI 0), (iI 0), (iI 0), (iI 0)]) :: fr) := O92.pick 5 rfl
          have O94 : Own.Owns n0 h89 ((ol, Own.ArrC Z .int [(iI 0), (iI 0), (iI 0), (iI 0), (iI 0), (iI 0), (iI 0), (iI 0)]) :: (ok, Own.ArrC Z .long [(jJ 0), (jJ 0), (jJ 0), (jJ 0)]) :: (o0, WEo Z (.ref op) (.ref oc) (.ref of') (.ref ol) (.ref a3) (iI 0) (iI 5) (iI 0) (iI 0)) :: (oc, Own.ArrC Z .int [(iI 1), (iI 1), (iI 1), (iI 1), (iI 1), (iI 0), (iI 0), (iI 0)]) :: (a3, Own.ArrC Z .long [(jJ 0), (jJ 4294967297), (jJ 8589934594), (jJ 12884901891), (jJ 17179869188), (jJ 0), (jJ 0), (jJ 0), (jJ 0), (jJ 0)]) :: (of', Own.ArrC Z .int [(.int f0), (.int f1), (.int f2), (.int f3), (.int f4), (iI 0), (iI 0), (iI 0)]) :: fr) := O93.pick 5 rfl
          have O95 : Own.Owns n0 h89 ((of', Own.ArrC Z .int [(.int f0), (.int f1), (.int f2), (.int f3), (.int f4), (iI 0), (iI 0), (iI 0)]) :: (ol, Own.ArrC Z .int [(iI 0), (iI 0), (iI 0), (iI 0), (iI 0), (iI 0), (iI 0), (iI 0)]) :: (ok, Own.ArrC Z .long [(jJ 0), (jJ 0), (jJ 0), (jJ 0)]) :: (o0, WEo Z (.ref op) (.ref oc) (.ref of') (.ref ol) (.ref a3) (iI 0) (iI 5) (iI 0) (iI 0)) :: (oc, Own.ArrC Z .int [(iI 1), (iI 1), (iI 1), (iI 1), (iI 1), (iI 0), (iI 0), (iI 0)]) :: (a3, Own.ArrC Z .long [(jJ 0), (jJ 4294967297), (jJ 8589934594), (jJ 12884901891), (jJ 17179869188), (jJ 0), (jJ 0), (jJ 0), (jJ 0), (jJ 0)]) :: fr) := O94.pick 5 rfl
          have O96 : Own.Owns n0 h89 ((a3, Own.ArrC Z .long [(jJ 0), (jJ 4294967297), (jJ 8589934594), (jJ 12884901891), (jJ 17179869188), (jJ 0), (jJ 0), (jJ 0), (jJ 0), (jJ 0)]) :: (of', Own.ArrC Z .int [(.int f0), (.int f1), (.int f2), (.int f3), (.int f4), (iI 0), (iI 0), (iI 0)]) :: (ol, Own.ArrC Z .int [(iI 0), (iI 0), (iI 0), (iI 0), (iI 0), (iI 0), (iI 0), (iI 0)]) :: (ok, Own.ArrC Z .long [(jJ 0), (jJ 0), (jJ 0), (jJ 0)]) :: (o0, WEo Z (.ref op) (.ref oc) (.ref of') (.ref ol) (.ref a3) (iI 0) (iI 5) (iI 0) (iI 0)) :: (oc, Own.ArrC Z .int [(iI 1), (iI 1), (iI 1), (iI 1), (iI 1), (iI 0), (iI 0), (iI 0)]) :: fr) := O95.pick 5 rfl
          exact Own.retV hx hret hlk (hb hby d11_208) (by decide) (by decide) ⟨[1, 1, 1, 1, 1, 0, 0, 0], (5 : Int32), a3, rfl, by rw [show dif f0 f1 = 1 from by rw [dif, if_neg hc30], show dif f1 f2 = 1 from by rw [dif, if_neg hc45], show dif f2 f3 = 1 from by rw [dif, if_neg hc60], show dif f3 f4 = 1 from by rw [dif, if_neg hc75]]; decide +kernel, O96.tail.tail.tail.tail⟩
        · refine Own.aloadN hx (.ref o0) (hb hby d11_117) rfl rfl rfl ?_
          refine Own.getfield hx hZ hown O72 1 1 rfl rfl (hw _ (wm 36 rfl)) (hb hby d11_118) rfl ?_
          refine Own.iloadN hx (4 : Int32) (hb hby d11_121) rfl rfl ?_
          refine Own.iconst hx (1 : Int32) (hb hby d11_122) rfl (by decide) ?_
          refine Own.isub hx (hb hby d11_123) rfl ?_
          refine Own.vI (3 : Int32) (by decide) ?_
          refine Own.dup2 hx (hb hby d11_124) rfl rfl rfl ?_
          refine Own.iaload hx hZ O72 2 3 rfl (by decide) (v := (.int (1 : Int32))) rfl (hb hby d11_125) rfl ?_
          refine Own.iload hx (1 : Int32) (hb hby d11_126) rfl rfl ?_
          refine Own.iadd hx (hb hby d11_128) rfl ?_
          refine Own.vI (2 : Int32) (by decide) ?_
          refine Own.iastore hx hZ O72 2 3 rfl (by decide) (by exact (show 3 < 8 by decide)) ((a3, Own.ArrC Z .long [(jJ 0), (jJ 4294967297), (jJ 8589934594), (jJ 12884901891), (jJ 17179869188), (jJ 0), (jJ 0), (jJ 0), (jJ 0), (jJ 0)]) :: (o0, WEo Z (.ref op) (.ref oc) (.ref of') (.ref ol) (.ref a3) (iI 0) (iI 5) (iI 0) (iI 0)) :: (oc, Own.ArrC Z .int [(iI 1), (iI 1), (iI 1), (iI 2), (iI 1), (iI 0), (iI 0), (iI 0)]) :: (of', Own.ArrC Z .int [(.int f0), (.int f1), (.int f2), (.int f3), (.int f4), (iI 0), (iI 0), (iI 0)]) :: (ol, Own.ArrC Z .int [(iI 0), (iI 0), (iI 0), (iI 0), (iI 0), (iI 0), (iI 0), (iI 0)]) :: (ok, Own.ArrC Z .long [(jJ 0), (jJ 0), (jJ 0), (jJ 0)]) :: fr) rfl (hb hby d11_129) rfl ?_
          intro h97 O98
          refine Own.goto hx (hb hby d11_130) (by decide) (pc' := 165) rfl ?_
          refine Own.iload hx (4 : Int32) (hb hby d11_165) rfl rfl ?_
          refine Own.iload hx (1 : Int32) (hb hby d11_167) rfl rfl ?_
          refine Own.iadd hx (hb hby d11_169) rfl ?_
          refine Own.vI (5 : Int32) (by decide) ?_
          refine Own.istore hx (5 : Int32) rfl #[.val (.ref o0), .val (.int (0 : Int32)), .val (.int (5 : Int32)), .val (.int (4 : Int32)), .val (.int (5 : Int32)), .val (.int (0 : Int32)), .val (.int (4 : Int32)), .val (.int (1 : Int32)), .val (.int f4)] (hb hby d11_170) rfl rfl ?_
          refine Own.iinc hx (5 : Int32) #[.val (.ref o0), .val (.int (0 : Int32)), .val (.int (5 : Int32)), .val (.int (4 : Int32)), .val (.int (5 : Int32)), .val (.int (0 : Int32)), .val (.int (5 : Int32)), .val (.int (1 : Int32)), .val (.int f4)] (hb hby d11_172) rfl rfl (by decide) rfl ?_
          refine Own.goto hx (hb hby d11_175) (by decide) (pc' := 37) rfl ?_
          refine Own.iload hx (5 : Int32) (hb hby d11_37) rfl rfl ?_
          refine Own.aloadN hx (.ref o0) (hb hby d11_39) rfl rfl rfl ?_
          refine Own.getfield hx hZ hown O98 1 6 rfl rfl (hw _ (wm 55 rfl)) (hb hby d11_40) rfl ?_
          have hc99 : ¬ ((5 : Int32) < (5 : Int32)) := by decide
          refine Own.icmpFn hx (Own.q_ge (5 : Int32) (5 : Int32)) (hb hby d11_43) (pcN := 46) rfl (by decide) (pcT := 178) rfl (fun _ => ?_) (fun q => absurd q hc99)
          refine Own.iload hx (0 : Int32) (hb hby d11_178) rfl rfl ?_
          have hc101 : (0 : Int32) = (0 : Int32) := by decide
          refine Own.ifF hx (Own.z_eq (0 : Int32)) (hb hby d11_180) (pcN := 183) rfl (by decide) (pcT := 199) rfl (fun _ => ?_) (fun q => absurd hc101 q)
          refine Own.aloadN hx (.ref o0) (hb hby d11_199) rfl rfl rfl ?_
          refine Own.iloadN hx (4 : Int32) (hb hby d11_200) rfl rfl ?_
          refine Own.putfield hx hZ hown O98 1 6 rfl rfl (hw _ (wm 55 rfl)) (Or.inl (hw _ (wm 56 rfl))) (hw _ (wm 2 rfl)) (ty := .int) (by decide) rfl rfl ((a3, Own.ArrC Z .long [(jJ 0), (jJ 4294967297), (jJ 8589934594), (jJ 12884901891), (jJ 17179869188), (jJ 0), (jJ 0), (jJ 0), (jJ 0), (jJ 0)]) :: (o0, WEo Z (.ref op) (.ref oc) (.ref of') (.ref ol) (.ref a3) (iI 0) (iI 4) (iI 0) (iI 0)) :: (oc, Own.ArrC Z .int [(iI 1), (iI 1), (iI 1), (iI 2), (iI 1), (iI 0), (iI 0), (iI 0)]) :: (of', Own.ArrC Z .int [(.int f0), (.int f1), (.int f2), (.int f3), (.int f4), (iI 0), (iI 0), (iI 0)]) :: (ol, Own.ArrC Z .int [(iI 0), (iI 0), (iI 0), (iI 0), (iI 0), (iI 0), (iI 0), (iI 0)]) :: (ok, Own.ArrC Z .long [(jJ 0), (jJ 0), (jJ 0), (jJ 0)]) :: fr) rfl (hb hby d11_201) rfl ?_
          intro h103 O104
          refine Own.aloadN hx (.ref o0) (hb hby d11_204) rfl rfl rfl ?_
          have O105 : Own.Owns n0 h103 ((o0, WEo Z (.ref op) (.ref oc) (.ref of') (.ref ol) (.ref a3) (iI 0) (iI 4) (iI 0) (iI 0)) :: (a3, Own.ArrC Z .long [(jJ 0), (jJ 4294967297), (jJ 8589934594), (jJ 12884901891), (jJ 17179869188), (jJ 0), (jJ 0), (jJ 0), (jJ 0), (jJ 0)]) :: (oc, Own.ArrC Z .int [(iI 1), (iI 1), (iI 1), (iI 2), (iI 1), (iI 0), (iI 0), (iI 0)]) :: (of', Own.ArrC Z .int [(.int f0), (.int f1), (.int f2), (.int f3), (.int f4), (iI 0), (iI 0), (iI 0)]) :: (ol, Own.ArrC Z .int [(iI 0), (iI 0), (iI 0), (iI 0), (iI 0), (iI 0), (iI 0), (iI 0)]) :: (ok, Own.ArrC Z .long [(jJ 0), (jJ 0), (jJ 0), (jJ 0)]) :: fr) := O104.pick 1 rfl
          refine Own.callP hx hZ hown (O105.exa (i := 0) rfl) (hw _ (wm 90 rfl)) (hw _ (wm 91 rfl)) (hw _ (wm 2 rfl)) (hw _ (wm 92 rfl)) (hw _ (wm 3 rfl)) (hw _ (wm 93 rfl)) (by decide) pd0 (argsL := []) (rest := []) rfl (W := 0) (Nat.le_of_eq rfl) (rm := ({ frames := 0, cells := 0, slots := 0, locals := 0 } : Room)) (by decide) (by decide) (by decide) (by decide) (k' := 1) (n' := 10) rfl rfl (by rw [hml]; rfl) [(.ref o0)] rfl (hb hby d11_205) (pc' := 208) rfl (rm12 l Z a0 hw o0 h103 n0 op oc of' ol a3 (4 : Int32) (0 : Int32) (0 : Int32) ((a3, Own.ArrC Z .long [(jJ 0), (jJ 4294967297), (jJ 8589934594), (jJ 12884901891), (jJ 17179869188), (jJ 0), (jJ 0), (jJ 0), (jJ 0), (jJ 0)]) :: (oc, Own.ArrC Z .int [(iI 1), (iI 1), (iI 1), (iI 2), (iI 1), (iI 0), (iI 0), (iI 0)]) :: (of', Own.ArrC Z .int [(.int f0), (.int f1), (.int f2), (.int f3), (.int f4), (iI 0), (iI 0), (iI 0)]) :: (ol, Own.ArrC Z .int [(iI 0), (iI 0), (iI 0), (iI 0), (iI 0), (iI 0), (iI 0), (iI 0)]) :: (ok, Own.ArrC Z .long [(jJ 0), (jJ 0), (jJ 0), (jJ 0)]) :: fr) O105) ?_
          rintro _ h106 ⟨rfl, O107⟩
          show Own.Goes _ _ _ _ _ _ _ _ _ _ _ _ _ _ _ _ _ (mkF m 208 #[.val (.ref o0), .val (.int (0 : Int32)), .val (.int (5 : Int32)), .val (.int (4 : Int32)), .val (.int (5 : Int32)), .val (.int (0 : Int32)), .val (.int (5 : Int32)), .val (.int (1 : Int32)), .val (.int f4)] [])
          have O108 : Own.Owns n0 h106 ((oc, Own.ArrC Z .int [(iI 1), (iI 1), (iI 1), (iI 2), (iI 1), (iI 0), (iI 0), (iI 0)]) :: (o0, WEo Z (.ref op) (.ref oc) (.ref of') (.ref ol) (.ref a3) (iI 0) (iI 4) (iI 0) (iI 0)) :: (a3, Own.ArrC Z .long [(jJ 0), (jJ 4294967297), (jJ 8589934594), (jJ 12884901891), (jJ 17179869188), (jJ 0), (jJ 0), (jJ 0), (jJ 0), (jJ 0)]) :: (of', Own.ArrC Z .int [(.int f0), (.int f1), (.int f2), (.int f3), (.int f4), (iI 0), (iI 0), (iI 0)]) :: (ol, Own.ArrC Z .int [(iI 0), (iI 0), (iI 0), (iI 0), (iI 0), (iI 0), (iI 0), (iI 0)]) :: (ok, Own.ArrC Z .long [(jJ 0), (jJ 0), (jJ 0), (jJ 0)]) :: fr) := O107.pick 2 rfl
          have O109 : Own.Owns n0 h106 ((o0, WEo Z (.ref op) (.ref oc) (.ref of') (.ref ol) (.ref a3) (iI 0) (iI 4) (iI 0) (iI 0)) :: (oc, Own.ArrC Z .int [(iI 1), (iI 1), (iI 1), (iI 2), (iI 1), (iI 0), (iI 0), (iI 0)]) :: (a3, Own.ArrC Z .long [(jJ 0), (jJ 4294967297), (jJ 8589934594), (jJ 12884901891), (jJ 17179869188), (jJ 0), (jJ 0), (jJ 0), (jJ 0), (jJ 0)]) :: (of', Own.ArrC Z .int [(.int f0), (.int f1), (.int f2), (.int f3), (.int f4), (iI 0), (iI 0), (iI 0)]) :: (ol, Own.ArrC Z .int [(iI 0), (iI 0), (iI 0), (iI 0), (iI 0), (iI 0), (iI 0), (iI 0)]) :: (ok, Own.ArrC Z .long [(jJ 0), (jJ 0), (jJ 0), (jJ 0)]) :: fr) := O108.pick 1 rfl
          have O110 : Own.Owns n0 h106 ((ok, Own.ArrC Z .long [(jJ 0), (jJ 0), (jJ 0), (jJ 0)]) :: (o0, WEo Z (.ref op) (.ref oc) (.ref of') (.ref ol) (.ref a3) (iI 0) (iI 4) (iI 0) (iI 0)) :: (oc, Own.ArrC Z .int [(iI 1), (iI 1), (iI 1), (iI 2), (iI 1), (iI 0), (iI 0), (iI 0)]) :: (a3, Own.ArrC Z .long [(jJ 0), (jJ 4294967297), (jJ 8589934594), (jJ 12884901891), (jJ 17179869188), (jJ 0), (jJ 0), (jJ 0), (jJ 0), (jJ 0)]) :: (of', Own.ArrC Z .int [(.int f0), (.int f1), (.int f2), (.int f3), (.int f4), (iI 0), (iI 0), (iI 0)]) :: (ol, Own.ArrC Z .int [(iI 0), (iI 0), (iI 0), (iI 0), (iI 0), (iI 0), (iI 0), (iI 0)]) :: fr) := O109.pick 5 rfl
          have O111 : Own.Owns n0 h106 ((ol, Own.ArrC Z .int [(iI 0), (iI 0), (iI 0), (iI 0), (iI 0), (iI 0), (iI 0), (iI 0)]) :: (ok, Own.ArrC Z .long [(jJ 0), (jJ 0), (jJ 0), (jJ 0)]) :: (o0, WEo Z (.ref op) (.ref oc) (.ref of') (.ref ol) (.ref a3) (iI 0) (iI 4) (iI 0) (iI 0)) :: (oc, Own.ArrC Z .int [(iI 1), (iI 1), (iI 1), (iI 2), (iI 1), (iI 0), (iI 0), (iI 0)]) :: (a3, Own.ArrC Z .long [(jJ 0), (jJ 4294967297), (jJ 8589934594), (jJ 12884901891), (jJ 17179869188), (jJ 0), (jJ 0), (jJ 0), (jJ 0), (jJ 0)]) :: (of', Own.ArrC Z .int [(.int f0), (.int f1), (.int f2), (.int f3), (.int f4), (iI 0), (iI 0), (iI 0)]) :: fr) := O110.pick 5 rfl
          have O112 : Own.Owns n0 h106 ((of', Own.ArrC Z .int [(.int f0), (.int f1), (.int f2), (.int f3), (.int f4), (iI 0), (iI 0), (iI 0)]) :: (ol, Own.ArrC Z .int [(iI 0), (iI 0), (iI 0), (iI 0), (iI 0), (iI 0), (iI 0), (iI 0)]) :: (ok, Own.ArrC Z .long [(jJ 0), (jJ 0), (jJ 0), (jJ 0)]) :: (o0, WEo Z (.ref op) (.ref oc) (.ref of') (.ref ol) (.ref a3) (iI 0) (iI 4) (iI 0) (iI 0)) :: (oc, Own.ArrC Z .int [(iI 1), (iI 1), (iI 1), (iI 2), (iI 1), (iI 0), (iI 0), (iI 0)]) :: (a3, Own.ArrC Z .long [(jJ 0), (jJ 4294967297), (jJ 8589934594), (jJ 12884901891), (jJ 17179869188), (jJ 0), (jJ 0), (jJ 0), (jJ 0), (jJ 0)]) :: fr) := O111.pick 5 rfl
          have O113 : Own.Owns n0 h106 ((a3, Own.ArrC Z .long [(jJ 0), (jJ 4294967297), (jJ 8589934594), (jJ 12884901891), (jJ 17179869188), (jJ 0), (jJ 0), (jJ 0), (jJ 0), (jJ 0)]) :: (of', Own.ArrC Z .int [(.int f0), (.int f1), (.int f2), (.int f3), (.int f4), (iI 0), (iI 0), (iI 0)]) :: (ol, Own.ArrC Z .int [(iI 0), (iI 0), (iI 0), (iI 0), (iI 0), (iI 0), (iI 0), (iI 0)]) :: (ok, Own.ArrC Z .long [(jJ 0), (jJ 0), (jJ 0), (jJ 0)]) :: (o0, WEo Z (.ref op) (.ref oc) (.ref of') (.ref ol) (.ref a3) (iI 0) (iI 4) (iI 0) (iI 0)) :: (oc, Own.ArrC Z .int [(iI 1), (iI 1), (iI 1), (iI 2), (iI 1), (iI 0), (iI 0), (iI 0)]) :: fr) := O112.pick 5 rfl
          exact Own.retV hx hret hlk (hb hby d11_208) (by decide) (by decide) ⟨[1, 1, 1, 2, 1, 0, 0, 0], (4 : Int32), a3, rfl, by rw [show dif f0 f1 = 1 from by rw [dif, if_neg hc30], show dif f1 f2 = 1 from by rw [dif, if_neg hc45], show dif f2 f3 = 1 from by rw [dif, if_neg hc60], show dif f3 f4 = 0 from by rw [dif, if_pos hc75]]; decide +kernel, O113.tail.tail.tail.tail⟩
      · refine Own.aloadN hx (.ref o0) (hb hby d11_117) rfl rfl rfl ?_
        refine Own.getfield hx hZ hown O57 1 1 rfl rfl (hw _ (wm 36 rfl)) (hb hby d11_118) rfl ?_
        refine Own.iloadN hx (3 : Int32) (hb hby d11_121) rfl rfl ?_
        refine Own.iconst hx (1 : Int32) (hb hby d11_122) rfl (by decide) ?_
        refine Own.isub hx (hb hby d11_123) rfl ?_
        refine Own.vI (2 : Int32) (by decide) ?_
        refine Own.dup2 hx (hb hby d11_124) rfl rfl rfl ?_
        refine Own.iaload hx hZ O57 2 2 rfl (by decide) (v := (.int (1 : Int32))) rfl (hb hby d11_125) rfl ?_
        refine Own.iload hx (1 : Int32) (hb hby d11_126) rfl rfl ?_
        refine Own.iadd hx (hb hby d11_128) rfl ?_
        refine Own.vI (2 : Int32) (by decide) ?_
        refine Own.iastore hx hZ O57 2 2 rfl (by decide) (by exact (show 2 < 8 by decide)) ((a3, Own.ArrC Z .long [(jJ 0), (jJ 4294967297), (jJ 8589934594), (jJ 12884901891), (jJ 0), (jJ 0), (jJ 0), (jJ 0), (jJ 0), (jJ 0)]) :: (o0, WEo Z (.ref op) (.ref oc) (.ref of') (.ref ol) (.ref a3) (iI 0) (iI 5) (iI 0) (iI 0)) :: (oc, Own.ArrC Z .int [(iI 1), (iI 1), (iI 2), (iI 1), (iI 1), (iI 0), (iI 0), (iI 0)]) :: (of', Own.ArrC Z .int [(.int f0), (.int f1), (.int f2), (.int f3), (.int f4), (iI 0), (iI 0), (iI 0)]) :: (ol, Own.ArrC Z .int [(iI 0), (iI 0), (iI 0), (iI 0), (iI 0), (iI 0), (iI 0), (iI 0)]) :: (ok, Own.ArrC Z .long [(jJ 0), (jJ 0), (jJ 0), (jJ 0)]) :: fr) rfl (hb hby d11_129) rfl ?_
        intro h114 O115
        refine Own.goto hx (hb hby d11_130) (by decide) (pc' := 165) rfl ?_
        refine Own.iload hx (3 : Int32) (hb hby d11_165) rfl rfl ?_
        refine Own.iload hx (1 : Int32) (hb hby d11_167) rfl rfl ?_
        refine Own.iadd hx (hb hby d11_169) rfl ?_
        refine Own.vI (4 : Int32) (by decide) ?_
        refine Own.istore hx (4 : Int32) rfl #[.val (.ref o0), .val (.int (0 : Int32)), .val (.int (4 : Int32)), .val (.int (3 : Int32)), .val (.int (4 : Int32)), .val (.int (0 : Int32)), .val (.int (3 : Int32)), .val (.int (1 : Int32)), .val (.int f3)] (hb hby d11_170) rfl rfl ?_
        refine Own.iinc hx (4 : Int32) #[.val (.ref o0), .val (.int (0 : Int32)), .val (.int (4 : Int32)), .val (.int (3 : Int32)), .val (.int (4 : Int32)), .val (.int (0 : Int32)), .val (.int (4 : Int32)), .val (.int (1 : Int32)), .val (.int f3)] (hb hby d11_172) rfl rfl (by decide) rfl ?_
        refine Own.goto hx (hb hby d11_175) (by decide) (pc' := 37) rfl ?_
        refine Own.iload hx (4 : Int32) (hb hby d11_37) rfl rfl ?_
        refine Own.aloadN hx (.ref o0) (hb hby d11_39) rfl rfl rfl ?_
        refine Own.getfield hx hZ hown O115 1 6 rfl rfl (hw _ (wm 55 rfl)) (hb hby d11_40) rfl ?_
        have hc116 : (4 : Int32) < (5 : Int32) := by decide
        refine Own.icmpFn hx (Own.q_ge (4 : Int32) (5 : Int32)) (hb hby d11_43) (pcN := 46) rfl (by decide) (pcT := 178) rfl (fun q => absurd hc116 q) (fun _ => ?_)
        refine Own.aloadN hx (.ref o0) (hb hby d11_46) rfl rfl rfl ?_
        refine Own.getfield hx hZ hown O115 1 1 rfl rfl (hw _ (wm 36 rfl)) (hb hby d11_47) rfl ?_
        refine Own.iload hx (4 : Int32) (hb hby d11_50) rfl rfl ?_
        refine Own.iaload hx hZ O115 2 4 rfl (by decide) (v := (.int (1 : Int32))) rfl (hb hby d11_52) rfl ?_
        refine Own.istore hx (1 : Int32) rfl #[.val (.ref o0), .val (.int (0 : Int32)), .val (.int (4 : Int32)), .val (.int (3 : Int32)), .val (.int (4 : Int32)), .val (.int (0 : Int32)), .val (.int (4 : Int32)), .val (.int (1 : Int32)), .val (.int f3)] (hb hby d11_53) rfl rfl ?_
        refine Own.aloadN hx (.ref o0) (hb hby d11_55) rfl rfl rfl ?_
        refine Own.getfield hx hZ hown O115 1 2 rfl rfl (hw _ (wm 38 rfl)) (hb hby d11_56) rfl ?_
        refine Own.iload hx (4 : Int32) (hb hby d11_59) rfl rfl ?_
        refine Own.iaload hx hZ O115 3 4 rfl (by decide) (v := (.int f4)) rfl (hb hby d11_61) rfl ?_
        refine Own.istore hx f4 rfl #[.val (.ref o0), .val (.int (0 : Int32)), .val (.int (4 : Int32)), .val (.int (3 : Int32)), .val (.int (4 : Int32)), .val (.int (0 : Int32)), .val (.int (4 : Int32)), .val (.int (1 : Int32)), .val (.int f4)] (hb hby d11_62) rfl rfl ?_
        refine Own.iload hx f4 (hb hby d11_64) rfl rfl ?_
        refine Own.iloadN hx (0 : Int32) (hb hby d11_66) rfl rfl ?_
        have hc118 : ¬ (f4 = (0 : Int32)) := hz4
        refine Own.icmpFn hx (Own.q_ne f4 (0 : Int32)) (hb hby d11_67) (pcN := 70) rfl (by decide) (pcT := 76) rfl (fun _ => ?_) (fun q => absurd q hc118)
        refine Own.aloadN hx (.ref o0) (hb hby d11_76) rfl rfl rfl ?_
        refine Own.getfield hx hZ hown O115 1 4 rfl rfl (hw _ (wm 42 rfl)) (hb hby d11_77) rfl ?_
        refine Own.iloadN hx (4 : Int32) (hb hby d11_80) rfl rfl ?_
        refine Own.iinc hx (5 : Int32) #[.val (.ref o0), .val (.int (0 : Int32)), .val (.int (5 : Int32)), .val (.int (3 : Int32)), .val (.int (4 : Int32)), .val (.int (0 : Int32)), .val (.int (4 : Int32)), .val (.int (1 : Int32)), .val (.int f4)] (hb hby d11_81) rfl rfl (by decide) rfl ?_
        refine Own.iload hx (4 : Int32) (hb hby d11_84) rfl rfl ?_
        refine Own.i2l hx (hb hby d11_86) rfl ?_
        refine Own.vL (4 : Int64) (by decide) ?_
        refine Own.bipush hx (32 : Int32) (hb hby d11_87) rfl (by decide) ?_
        refine Own.lshl hx (hb hby d11_89) rfl ?_
        refine Own.vL (17179869184 : Int64) (by decide) ?_
        refine Own.iload hx (4 : Int32) (hb hby d11_90) rfl rfl ?_
        refine Own.iload hx (1 : Int32) (hb hby d11_92) rfl rfl ?_
        refine Own.iadd hx (hb hby d11_94) rfl ?_
        refine Own.vI (5 : Int32) (by decide) ?_
        refine Own.iconst hx (1 : Int32) (hb hby d11_95) rfl (by decide) ?_
        refine Own.isub hx (hb hby d11_96) rfl ?_
        refine Own.vI (4 : Int32) (by decide) ?_
        refine Own.i2l hx (hb hby d11_97) rfl ?_
        refine Own.vL (4 : Int64) (by decide) ?_
        refine Own.lor hx (hb hby d11_98) rfl ?_
        refine Own.vL (17179869188 : Int64) (by decide) ?_
        refine Own.lastore hx hZ O115 0 4 rfl (by decide) (by exact (show 4 < 10 by decide)) ((a3, Own.ArrC Z .long [(jJ 0), (jJ 4294967297), (jJ 8589934594), (jJ 12884901891), (jJ 17179869188), (jJ 0), (jJ 0), (jJ 0), (jJ 0), (jJ 0)]) :: (o0, WEo Z (.ref op) (.ref oc) (.ref of') (.ref ol) (.ref a3) (iI 0) (iI 5) (iI 0) (iI 0)) :: (oc, Own.ArrC Z .int [(iI 1), (iI 1), (iI 2), (iI 1), (iI 1), (iI 0), (iI 0), (iI 0)]) :: (of', Own.ArrC Z .int [(.int f0), (.int f1), (.int f2), (.int f3), (.int f4), (iI 0), (iI 0), (iI 0)]) :: (ol, Own.ArrC Z .int [(iI 0), (iI 0), (iI 0), (iI 0), (iI 0), (iI 0), (iI 0), (iI 0)]) :: (ok, Own.ArrC Z .long [(jJ 0), (jJ 0), (jJ 0), (jJ 0)]) :: fr) rfl (hb hby d11_99) rfl ?_
        intro h120 O121
        refine Own.iloadN hx (3 : Int32) (hb hby d11_100) rfl rfl ?_
        have hc122 : (0 : Int32) < (3 : Int32) := by decide
        refine Own.ifFn hx (Own.z_le (3 : Int32)) (hb hby d11_101) (pcN := 104) rfl (by decide) (pcT := 133) rfl (fun q => absurd hc122 q) (fun _ => ?_)
        refine Own.aloadN hx (.ref o0) (hb hby d11_104) rfl rfl rfl ?_
        refine Own.getfield hx hZ hown O121 1 2 rfl rfl (hw _ (wm 38 rfl)) (hb hby d11_105) rfl ?_
        refine Own.iloadN hx (3 : Int32) (hb hby d11_108) rfl rfl ?_
        refine Own.iconst hx (1 : Int32) (hb hby d11_109) rfl (by decide) ?_
        refine Own.isub hx (hb hby d11_110) rfl ?_
        refine Own.vI (2 : Int32) (by decide) ?_
        refine Own.iaload hx hZ O121 3 2 rfl (by decide) (v := (.int f2)) rfl (hb hby d11_111) rfl ?_
        refine Own.iload hx f4 (hb hby d11_112) rfl rfl ?_
        refine Own.icmpFn hx (Own.q_ne f2 f4) (hb hby d11_114) (pcN := 117) rfl (by decide) (pcT := 133) rfl (fun hc124 => ?_) (fun hc124 => ?_)
        · refine Own.aloadN hx (.ref o0) (hb hby d11_133) rfl rfl rfl ?_
          refine Own.getfield hx hZ hown O121 1 1 rfl rfl (hw _ (wm 36 rfl)) (hb hby d11_134) rfl ?_
          refine Own.iloadN hx (3 : Int32) (hb hby d11_137) rfl rfl ?_
          refine Own.iload hx (1 : Int32) (hb hby d11_138) rfl rfl ?_
          refine Own.iastore hx hZ O121 2 3 rfl (by decide) (by exact (show 3 < 8 by decide)) ((a3, Own.ArrC Z .long [(jJ 0), (jJ 4294967297), (jJ 8589934594), (jJ 12884901891), (jJ 17179869188), (jJ 0), (jJ 0), (jJ 0), (jJ 0), (jJ 0)]) :: (o0, WEo Z (.ref op) (.ref oc) (.ref of') (.ref ol) (.ref a3) (iI 0) (iI 5) (iI 0) (iI 0)) :: (oc, Own.ArrC Z .int [(iI 1), (iI 1), (iI 2), (iI 1), (iI 1), (iI 0), (iI 0), (iI 0)]) :: (of', Own.ArrC Z .int [(.int f0), (.int f1), (.int f2), (.int f3), (.int f4), (iI 0), (iI 0), (iI 0)]) :: (ol, Own.ArrC Z .int [(iI 0), (iI 0), (iI 0), (iI 0), (iI 0), (iI 0), (iI 0), (iI 0)]) :: (ok, Own.ArrC Z .long [(jJ 0), (jJ 0), (jJ 0), (jJ 0)]) :: fr) rfl (hb hby d11_140) rfl ?_
          intro h125 O126
          refine Own.aloadN hx (.ref o0) (hb hby d11_141) rfl rfl rfl ?_
          refine Own.getfield hx hZ hown O126 1 2 rfl rfl (hw _ (wm 38 rfl)) (hb hby d11_142) rfl ?_
          refine Own.iloadN hx (3 : Int32) (hb hby d11_145) rfl rfl ?_
          refine Own.iload hx f4 (hb hby d11_146) rfl rfl ?_
          refine Own.iastore hx hZ O126 3 3 rfl (by decide) (by exact (show 3 < 8 by decide)) ((a3, Own.ArrC Z .long [(jJ 0), (jJ 4294967297), (jJ 8589934594), (jJ 12884901891), (jJ 17179869188), (jJ 0), (jJ 0), (jJ 0), (jJ 0), (jJ 0)]) :: (o0, WEo Z (.ref op) (.ref oc) (.ref of') (.ref ol) (.ref a3) (iI 0) (iI 5) (iI 0) (iI 0)) :: (oc, Own.ArrC Z .int [(iI 1), (iI 1), (iI 2), (iI 1), (iI 1), (iI 0), (iI 0), (iI 0)]) :: (of', Own.ArrC Z .int [(.int f0), (.int f1), (.int f2), (.int f4), (.int f4), (iI 0), (iI 0), (iI 0)]) :: (ol, Own.ArrC Z .int [(iI 0), (iI 0), (iI 0), (iI 0), (iI 0), (iI 0), (iI 0), (iI 0)]) :: (ok, Own.ArrC Z .long [(jJ 0), (jJ 0), (jJ 0), (jJ 0)]) :: fr) rfl (hb hby d11_148) rfl ?_
          intro h127 O128
          refine Own.aloadN hx (.ref o0) (hb hby d11_149) rfl rfl rfl ?_
          refine Own.getfield hx hZ hown O128 1 3 rfl rfl (hw _ (wm 40 rfl)) (hb hby d11_150) rfl ?_
          refine Own.iloadN hx (3 : Int32) (hb hby d11_153) rfl rfl ?_
          refine Own.iinc hx (4 : Int32) #[.val (.ref o0), .val (.int (0 : Int32)), .val (.int (5 : Int32)), .val (.int (4 : Int32)), .val (.int (4 : Int32)), .val (.int (0 : Int32)), .val (.int (4 : Int32)), .val (.int (1 : Int32)), .val (.int f4)] (hb hby d11_154) rfl rfl (by decide) rfl ?_
          refine Own.aloadN hx (.ref o0) (hb hby d11_157) rfl rfl rfl ?_
          refine Own.getfield hx hZ hown O128 1 3 rfl rfl (hw _ (wm 40 rfl)) (hb hby d11_158) rfl ?_
          refine Own.iload hx (4 : Int32) (hb hby d11_161) rfl rfl ?_
          refine Own.iaload hx hZ O128 4 4 rfl (by decide) (v := (.int (0 : Int32))) rfl (hb hby d11_163) rfl ?_
          refine Own.iastore hx hZ O128 4 3 rfl (by decide) (by exact (show 3 < 8 by decide)) ((a3, Own.ArrC Z .long [(jJ 0), (jJ 4294967297), (jJ 8589934594), (jJ 12884901891), (jJ 17179869188), (jJ 0), (jJ 0), (jJ 0), (jJ 0), (jJ 0)]) :: (o0, WEo Z (.ref op) (.ref oc) (.ref of') (.ref ol) (.ref a3) (iI 0) (iI 5) (iI 0) (iI 0)) :: (oc, Own.ArrC Z .int [(iI 1), (iI 1), (iI 2), (iI 1), (iI 1), (iI 0), (iI 0), (iI 0)]) :: (of', Own.ArrC Z .int [(.int f0), (.int f1), (.int f2), (.int f4), (.int f4), (iI 0), (iI 0), (iI 0)]) :: (ol, Own.ArrC Z .int [(iI 0), (iI 0), (iI 0), (iI 0), (iI 0), (iI 0), (iI 0), (iI 0)]) :: (ok, Own.ArrC Z .long [(jJ 0), (jJ 0), (jJ 0), (jJ 0)]) :: fr) rfl (hb hby d11_164) rfl ?_
          intro h129 O130
          refine Own.iload hx (4 : Int32) (hb hby d11_165) rfl rfl ?_
          refine Own.iload hx (1 : Int32) (hb hby d11_167) rfl rfl ?_
          refine Own.iadd hx (hb hby d11_169) rfl ?_
          refine Own.vI (5 : Int32) (by decide) ?_
          refine Own.istore hx (5 : Int32) rfl #[.val (.ref o0), .val (.int (0 : Int32)), .val (.int (5 : Int32)), .val (.int (4 : Int32)), .val (.int (5 : Int32)), .val (.int (0 : Int32)), .val (.int (4 : Int32)), .val (.int (1 : Int32)), .val (.int f4)] (hb hby d11_170) rfl rfl ?_
          refine Own.iinc hx (5 : Int32) #[.val (.ref o0), .val (.int (0 : Int32)), .val (.int (5 : Int32)), .val (.int (4 : Int32)), .val (.int (5 : Int32)), .val (.int (0 : Int32)), .val (.int (5 : Int32)), .val (.int (1 : Int32)), .val (.int f4)] (hb hby d11_172) rfl rfl (by decide) rfl ?_
          refine Own.goto hx (hb hby d11_175) (by decide) (pc' := 37) rfl ?_
          refine Own.iload hx (5 : Int32) (hb hby d11_37) rfl rfl ?_
          refine Own.aloadN hx (.ref o0) (hb hby d11_39) rfl rfl rfl ?_
          refine Own.getfield hx hZ hown O130 1 6 rfl rfl (hw _ (wm 55 rfl)) (hb hby d11_40) rfl ?_
          have hc131 : ¬ ((5 : Int32) < (5 : Int32)) := by decide
          refine Own.icmpFn hx (Own.q_ge (5 : Int32) (5 : Int32)) (hb hby d11_43) (pcN := 46) rfl (by decide) (pcT := 178) rfl (fun _ => ?_) (fun q => absurd q hc131)
          refine Own.iload hx (0 : Int32) (hb hby d11_178) rfl rfl ?_
          have hc133 : (0 : Int32) = (0 : Int32) := by decide
          refine Own.ifF hx (Own.z_eq (0 : Int32)) (hb hby d11_180) (pcN := 183) rfl (by decide) (pcT := 199) rfl (fun _ => ?_) (fun q => absurd hc133 q)
          refine Own.aloadN hx (.ref o0) (hb hby d11_199) rfl rfl rfl ?_
          refine Own.iloadN hx (4 : Int32) (hb hby d11_200) rfl rfl ?_
          refine Own.putfield hx hZ hown O130 1 6 rfl rfl (hw _ (wm 55 rfl)) (Or.inl (hw _ (wm 56 rfl))) (hw _ (wm 2 rfl)) (ty := .int) (by decide) rfl rfl ((a3, Own.ArrC Z .long [(jJ 0), (jJ 4294967297), (jJ 8589934594), (jJ 12884901891), (jJ 17179869188), (jJ 0), (jJ 0), (jJ 0), (jJ 0), (jJ 0)]) :: (o0, WEo Z (.ref op) (.ref oc) (.ref of') (.ref ol) (.ref a3) (iI 0) (iI 4) (iI 0) (iI 0)) :: (oc, Own.ArrC Z .int [(iI 1), (iI 1), (iI 2), (iI 1), (iI 1), (iI 0), (iI 0), (iI 0)]) :: (of', Own.ArrC Z .int [(.int f0), (.int f1), (.int f2), (.int f4), (.int f4), (iI 0), (iI 0), (iI 0)]) :: (ol, Own.ArrC Z .int [(iI 0), (iI 0), (iI 0), (iI 0), (iI 0), (iI 0), (iI 0), (iI 0)]) :: (ok, Own.ArrC Z .long [(jJ 0), (jJ 0), (jJ 0), (jJ 0)]) :: fr) rfl (hb hby d11_201) rfl ?_
          intro h135 O136
          refine Own.aloadN hx (.ref o0) (hb hby d11_204) rfl rfl rfl ?_
          have O137 : Own.Owns n0 h135 ((o0, WEo Z (.ref op) (.ref oc) (.ref of') (.ref ol) (.ref a3) (iI 0) (iI 4) (iI 0) (iI 0)) :: (a3, Own.ArrC Z .long [(jJ 0), (jJ 4294967297), (jJ 8589934594), (jJ 12884901891), (jJ 17179869188), (jJ 0), (jJ 0), (jJ 0), (jJ 0), (jJ 0)]) :: (oc, Own.ArrC Z .int [(iI 1), (iI 1), (iI 2), (iI 1), (iI 1), (iI 0), (iI 0), (iI 0)]) :: (of', Own.ArrC Z .int [(.int f0), (.int f1), (.int f2), (.int f4), (.int f4), (iI 0), (iI 0), (iI 0)]) :: (ol, Own.ArrC Z .int [(iI 0), (iI 0), (iI 0), (iI 0), (iI 0), (iI 0), (iI 0), (iI 0)]) :: (ok, Own.ArrC Z .long [(jJ 0), (jJ 0), (jJ 0), (jJ 0)]) :: fr) := O136.pick 1 rfl
          refine Own.callP hx hZ hown (O137.exa (i := 0) rfl) (hw _ (wm 90 rfl)) (hw _ (wm 91 rfl)) (hw _ (wm 2 rfl)) (hw _ (wm 92 rfl)) (hw _ (wm 3 rfl)) (hw _ (wm 93 rfl)) (by decide) pd0 (argsL := []) (rest := []) rfl (W := 0) (Nat.le_of_eq rfl) (rm := ({ frames := 0, cells := 0, slots := 0, locals := 0 } : Room)) (by decide) (by decide) (by decide) (by decide) (k' := 1) (n' := 10) rfl rfl (by rw [hml]; rfl) [(.ref o0)] rfl (hb hby d11_205) (pc' := 208) rfl (rm12 l Z a0 hw o0 h135 n0 op oc of' ol a3 (4 : Int32) (0 : Int32) (0 : Int32) ((a3, Own.ArrC Z .long [(jJ 0), (jJ 4294967297), (jJ 8589934594), (jJ 12884901891), (jJ 17179869188), (jJ 0), (jJ 0), (jJ 0), (jJ 0), (jJ 0)]) :: (oc, Own.ArrC Z .int [(iI 1), (iI 1), (iI 2), (iI 1), (iI 1), (iI 0), (iI 0), (iI 0)]) :: (of', Own.ArrC Z .int [(.int f0), (.int f1), (.int f2), (.int f4), (.int f4), (iI 0), (iI 0), (iI 0)]) :: (ol, Own.ArrC Z .int [(iI 0), (iI 0), (iI 0), (iI 0), (iI 0), (iI 0), (iI 0), (iI 0)]) :: (ok, Own.ArrC Z .long [(jJ 0), (jJ 0), (jJ 0), (jJ 0)]) :: fr) O137) ?_
          rintro _ h138 ⟨rfl, O139⟩
          show Own.Goes _ _ _ _ _ _ _ _ _ _ _ _ _ _ _ _ _ (mkF m 208 #[.val (.ref o0), .val (.int (0 : Int32)), .val (.int (5 : Int32)), .val (.int (4 : Int32)), .val (.int (5 : Int32)), .val (.int (0 : Int32)), .val (.int (5 : Int32)), .val (.int (1 : Int32)), .val (.int f4)] [])
          have O140 : Own.Owns n0 h138 ((oc, Own.ArrC Z .int [(iI 1), (iI 1), (iI 2), (iI 1), (iI 1), (iI 0), (iI 0), (iI 0)]) :: (o0, WEo Z (.ref op) (.ref oc) (.ref of') (.ref ol) (.ref a3) (iI 0) (iI 4) (iI 0) (iI 0)) :: (a3, Own.ArrC Z .long [(jJ 0), (jJ 4294967297), (jJ 8589934594), (jJ 12884901891), (jJ 17179869188), (jJ 0), (jJ 0), (jJ 0), (jJ 0), (jJ 0)]) :: (of', Own.ArrC Z .int [(.int f0), (.int f1), (.int f2), (.int f4), (.int f4), (iI 0), (iI 0), (iI 0)]) :: (ol, Own.ArrC Z .int [(iI 0), (iI 0), (iI 0), (iI 0), (iI 0), (iI 0), (iI 0), (iI 0)]) :: (ok, Own.ArrC Z .long [(jJ 0), (jJ 0), (jJ 0), (jJ 0)]) :: fr) := O139.pick 2 rfl
          have O141 : Own.Owns n0 h138 ((o0, WEo Z (.ref op) (.ref oc) (.ref of') (.ref ol) (.ref a3) (iI 0) (iI 4) (iI 0) (iI 0)) :: (oc, Own.ArrC Z .int [(iI 1), (iI 1), (iI 2), (iI 1), (iI 1), (iI 0), (iI 0), (iI 0)]) :: (a3, Own.ArrC Z .long [(jJ 0), (jJ 4294967297), (jJ 8589934594), (jJ 12884901891), (jJ 17179869188), (jJ 0), (jJ 0), (jJ 0), (jJ 0), (jJ 0)]) :: (of', Own.ArrC Z .int [(.int f0), (.int f1), (.int f2), (.int f4), (.int f4), (iI 0), (iI 0), (iI 0)]) :: (ol, Own.ArrC Z .int [(iI 0), (iI 0), (iI 0), (iI 0), (iI 0), (iI 0), (iI 0), (iI 0)]) :: (ok, Own.ArrC Z .long [(jJ 0), (jJ 0), (jJ 0), (jJ 0)]) :: fr) := O140.pick 1 rfl
          have O142 : Own.Owns n0 h138 ((ok, Own.ArrC Z .long [(jJ 0), (jJ 0), (jJ 0), (jJ 0)]) :: (o0, WEo Z (.ref op) (.ref oc) (.ref of') (.ref ol) (.ref a3) (iI 0) (iI 4) (iI 0) (iI 0)) :: (oc, Own.ArrC Z .int [(iI 1), (iI 1), (iI 2), (iI 1), (iI 1), (iI 0), (iI 0), (iI 0)]) :: (a3, Own.ArrC Z .long [(jJ 0), (jJ 4294967297), (jJ 8589934594), (jJ 12884901891), (jJ 17179869188), (jJ 0), (jJ 0), (jJ 0), (jJ 0), (jJ 0)]) :: (of', Own.ArrC Z .int [(.int f0), (.int f1), (.int f2), (.int f4), (.int f4), (iI 0), (iI 0), (iI 0)]) :: (ol, Own.ArrC Z .int [(iI 0), (iI 0), (iI 0), (iI 0), (iI 0), (iI 0), (iI 0), (iI 0)]) :: fr) := O141.pick 5 rfl
          have O143 : Own.Owns n0 h138 ((ol, Own.ArrC Z .int [(iI 0), (iI 0), (iI 0), (iI 0), (iI 0), (iI 0), (iI 0), (iI 0)]) :: (ok, Own.ArrC Z .long [(jJ 0), (jJ 0), (jJ 0), (jJ 0)]) :: (o0, WEo Z (.ref op) (.ref oc) (.ref of') (.ref ol) (.ref a3) (iI 0) (iI 4) (iI 0) (iI 0)) :: (oc, Own.ArrC Z .int [(iI 1), (iI 1), (iI 2), (iI 1), (iI 1), (iI 0), (iI 0), (iI 0)]) :: (a3, Own.ArrC Z .long [(jJ 0), (jJ 4294967297), (jJ 8589934594), (jJ 12884901891), (jJ 17179869188), (jJ 0), (jJ 0), (jJ 0), (jJ 0), (jJ 0)]) :: (of', Own.ArrC Z .int [(.int f0), (.int f1), (.int f2), (.int f4), (.int f4), (iI 0), (iI 0), (iI 0)]) :: fr) := O142.pick 5 rfl
          have O144 : Own.Owns n0 h138 ((of', Own.ArrC Z .int [(.int f0), (.int f1), (.int f2), (.int f4), (.int f4), (iI 0), (iI 0), (iI 0)]) :: (ol, Own.ArrC Z .int [(iI 0), (iI 0), (iI 0), (iI 0), (iI 0), (iI 0), (iI 0), (iI 0)]) :: (ok, Own.ArrC Z .long [(jJ 0), (jJ 0), (jJ 0), (jJ 0)]) :: (o0, WEo Z (.ref op) (.ref oc) (.ref of') (.ref ol) (.ref a3) (iI 0) (iI 4) (iI 0) (iI 0)) :: (oc, Own.ArrC Z .int [(iI 1), (iI 1), (iI 2), (iI 1), (iI 1), (iI 0), (iI 0), (iI 0)]) :: (a3, Own.ArrC Z .long [(jJ 0), (jJ 4294967297), (jJ 8589934594), (jJ 12884901891), (jJ 17179869188), (jJ 0), (jJ 0), (jJ 0), (jJ 0), (jJ 0)]) :: fr) := O143.pick 5 rfl
          have O145 : Own.Owns n0 h138 ((a3, Own.ArrC Z .long [(jJ 0), (jJ 4294967297), (jJ 8589934594), (jJ 12884901891), (jJ 17179869188), (jJ 0), (jJ 0), (jJ 0), (jJ 0), (jJ 0)]) :: (of', Own.ArrC Z .int [(.int f0), (.int f1), (.int f2), (.int f4), (.int f4), (iI 0), (iI 0), (iI 0)]) :: (ol, Own.ArrC Z .int [(iI 0), (iI 0), (iI 0), (iI 0), (iI 0), (iI 0), (iI 0), (iI 0)]) :: (ok, Own.ArrC Z .long [(jJ 0), (jJ 0), (jJ 0), (jJ 0)]) :: (o0, WEo Z (.ref op) (.ref oc) (.ref of') (.ref ol) (.ref a3) (iI 0) (iI 4) (iI 0) (iI 0)) :: (oc, Own.ArrC Z .int [(iI 1), (iI 1), (iI 2), (iI 1), (iI 1), (iI 0), (iI 0), (iI 0)]) :: fr) := O144.pick 5 rfl
          exact Own.retV hx hret hlk (hb hby d11_208) (by decide) (by decide) ⟨[1, 1, 2, 1, 1, 0, 0, 0], (4 : Int32), a3, rfl, by rw [show dif f0 f1 = 1 from by rw [dif, if_neg hc30], show dif f1 f2 = 1 from by rw [dif, if_neg hc45], show dif f2 f3 = 0 from by rw [dif, if_pos hc60], show dif f3 f4 = 1 from by rw [← hc60, dif, if_neg hc124]]; decide +kernel, O145.tail.tail.tail.tail⟩
        · refine Own.aloadN hx (.ref o0) (hb hby d11_117) rfl rfl rfl ?_
          refine Own.getfield hx hZ hown O121 1 1 rfl rfl (hw _ (wm 36 rfl)) (hb hby d11_118) rfl ?_
          refine Own.iloadN hx (3 : Int32) (hb hby d11_121) rfl rfl ?_
          refine Own.iconst hx (1 : Int32) (hb hby d11_122) rfl (by decide) ?_
          refine Own.isub hx (hb hby d11_123) rfl ?_
          refine Own.vI (2 : Int32) (by decide) ?_
          refine Own.dup2 hx (hb hby d11_124) rfl rfl rfl ?_
          refine Own.iaload hx hZ O121 2 2 rfl (by decide) (v := (.int (2 : Int32))) rfl (hb hby d11_125) rfl ?_
          refine Own.iload hx (1 : Int32) (hb hby d11_126) rfl rfl ?_
          refine Own.iadd hx (hb hby d11_128) rfl ?_
          refine Own.vI (3 : Int32) (by decide) ?_
          refine Own.iastore hx hZ O121 2 2 rfl (by decide) (by exact (show 2 < 8 by decide)) ((a3, Own.ArrC Z .long [(jJ 0), (jJ 4294967297), (jJ 8589934594), (jJ 12884901891), (jJ 17179869188), (jJ 0), (jJ 0), (jJ 0), (jJ 0), (jJ 0)]) :: (o0, WEo Z (.ref op) (.ref oc) (.ref of') (.ref ol) (.ref a3) (iI 0) (iI 5) (iI 0) (iI 0)) :: (oc, Own.ArrC Z .int [(iI 1), (iI 1), (iI 3), (iI 1), (iI 1), (iI 0), (iI 0), (iI 0)]) :: (of', Own.ArrC Z .int [(.int f0), (.int f1), (.int f2), (.int f3), (.int f4), (iI 0), (iI 0), (iI 0)]) :: (ol, Own.ArrC Z .int [(iI 0), (iI 0), (iI 0), (iI 0), (iI 0), (iI 0), (iI 0), (iI 0)]) :: (ok, Own.ArrC Z .long [(jJ 0), (jJ 0), (jJ 0), (jJ 0)]) :: fr) rfl (hb hby d11_129) rfl ?_
          intro h146 O147
          refine Own.goto hx (hb hby d11_130) (by decide) (pc' := 165) rfl ?_
          refine Own.iload hx (4 : Int32) (hb hby d11_165) rfl rfl ?_
          refine Own.iload hx (1 : Int32) (hb hby d11_167) rfl rfl ?_
          refine Own.iadd hx (hb hby d11_169) rfl ?_
          refine Own.vI (5 : Int32) (by decide) ?_
          refine Own.istore hx (5 : Int32) rfl #[.val (.ref o0), .val (.int (0 : Int32)), .val (.int (5 : Int32)), .val (.int (3 : Int32)), .val (.int (5 : Int32)), .val (.int (0 : Int32)), .val (.int (4 : Int32)), .val (.int (1 : Int32)), .val (.int f4)] (hb hby d11_170) rfl rfl ?_
          refine Own.iinc hx (5 : Int32) #[.val (.ref o0), .val (.int (0 : Int32)), .val (.int (5 : Int32)), .val (.int (3 : Int32)), .val (.int (5 : Int32)), .val (.int (0 : Int32)), .val (.int (5 : Int32)), .val (.int (1 : Int32)), .val (.int f4)] (hb hby d11_172) rfl rfl (by decide) rfl ?_
          refine Own.goto hx (hb hby d11_175) (by decide) (pc' := 37) rfl ?_
          refine Own.iload hx (5 : Int32) (hb hby d11_37) rfl rfl ?_
          refine Own.aloadN hx (.ref o0) (hb hby d11_39) rfl rfl rfl ?_
          refine Own.getfield hx hZ hown O147 1 6 rfl rfl (hw _ (wm 55 rfl)) (hb hby d11_40) rfl ?_
          have hc148 : ¬ ((5 : Int32) < (5 : Int32)) := by decide
          refine Own.icmpFn hx (Own.q_ge (5 : Int32) (5 : Int32)) (hb hby d11_43) (pcN := 46) rfl (by decide) (pcT := 178) rfl (fun _ => ?_) (fun q => absurd q hc148)
          refine Own.iload hx (0 : Int32) (hb hby d11_178) rfl rfl ?_
          have hc150 : (0 : Int32) = (0 : Int32) := by decide
          refine Own.ifF hx (Own.z_eq (0 : Int32)) (hb hby d11_180) (pcN := 183) rfl (by decide) (pcT := 199) rfl (fun _ => ?_) (fun q => absurd hc150 q)
          refine Own.aloadN hx (.ref o0) (hb hby d11_199) rfl rfl rfl ?_
          refine Own.iloadN hx (3 : Int32) (hb hby d11_200) rfl rfl ?_
          refine Own.putfield hx hZ hown O147 1 6 rfl rfl (hw _ (wm 55 rfl)) (Or.inl (hw _ (wm 56 rfl))) (hw _ (wm 2 rfl)) (ty := .int) (by decide) rfl rfl ((a3, Own.ArrC Z .long [(jJ 0), (jJ 4294967297), (jJ 8589934594), (jJ 12884901891), (jJ 17179869188), (jJ 0), (jJ 0), (jJ 0), (jJ 0), (jJ 0)]) :: (o0, WEo Z (.ref op) (.ref oc) (.ref of') (.ref ol) (.ref a3) (iI 0) (iI 3) (iI 0) (iI 0)) :: (oc, Own.ArrC Z .int [(iI 1), (iI 1), (iI 3), (iI 1), (iI 1), (iI 0), (iI 0), (iI 0)]) :: (of', Own.ArrC Z .int [(.int f0), (.int f1), (.int f2), (.int f3), (.int f4), (iI 0), (iI 0), (iI 0)]) :: (ol, Own.ArrC Z .int [(iI 0), (iI 0), (iI 0), (iI 0), (iI 0), (iI 0), (iI 0), (iI 0)]) :: (ok, Own.ArrC Z .long [(jJ 0), (jJ 0), (jJ 0), (jJ 0)]) :: fr) rfl (hb hby d11_201) rfl ?_
          intro h152 O153
          refine Own.aloadN hx (.ref o0) (hb hby d11_204) rfl rfl rfl ?_
          have O154 : Own.Owns n0 h152 ((o0, WEo Z (.ref op) (.ref oc) (.ref of') (.ref ol) (.ref a3) (iI 0) (iI 3) (iI 0) (iI 0)) :: (a3, Own.ArrC Z .long [(jJ 0), (jJ 4294967297), (jJ 8589934594), (jJ 12884901891), (jJ 17179869188), (jJ 0), (jJ 0), (jJ 0), (jJ 0), (jJ 0)]) :: (oc, Own.ArrC Z .int [(iI 1), (iI 1), (iI 3), (iI 1), (iI 1), (iI 0), (iI 0), (iI 0)]) :: (of', Own.ArrC Z .int [(.int f0), (.int f1), (.int f2), (.int f3), (.int f4), (iI 0), (iI 0), (iI 0)]) :: (ol, Own.ArrC Z .int [(iI 0), (iI 0), (iI 0), (iI 0), (iI 0), (iI 0), (iI 0), (iI 0)]) :: (ok, Own.ArrC Z .long [(jJ 0), (jJ 0), (jJ 0), (jJ 0)]) :: fr) := O153.pick 1 rfl
          refine Own.callP hx hZ hown (O154.exa (i := 0) rfl) (hw _ (wm 90 rfl)) (hw _ (wm 91 rfl)) (hw _ (wm 2 rfl)) (hw _ (wm 92 rfl)) (hw _ (wm 3 rfl)) (hw _ (wm 93 rfl)) (by decide) pd0 (argsL := []) (rest := []) rfl (W := 0) (Nat.le_of_eq rfl) (rm := ({ frames := 0, cells := 0, slots := 0, locals := 0 } : Room)) (by decide) (by decide) (by decide) (by decide) (k' := 1) (n' := 10) rfl rfl (by rw [hml]; rfl) [(.ref o0)] rfl (hb hby d11_205) (pc' := 208) rfl (rm12 l Z a0 hw o0 h152 n0 op oc of' ol a3 (3 : Int32) (0 : Int32) (0 : Int32) ((a3, Own.ArrC Z .long [(jJ 0), (jJ 4294967297), (jJ 8589934594), (jJ 12884901891), (jJ 17179869188), (jJ 0), (jJ 0), (jJ 0), (jJ 0), (jJ 0)]) :: (oc, Own.ArrC Z .int [(iI 1), (iI 1), (iI 3), (iI 1), (iI 1), (iI 0), (iI 0), (iI 0)]) :: (of', Own.ArrC Z .int [(.int f0), (.int f1), (.int f2), (.int f3), (.int f4), (iI 0), (iI 0), (iI 0)]) :: (ol, Own.ArrC Z .int [(iI 0), (iI 0), (iI 0), (iI 0), (iI 0), (iI 0), (iI 0), (iI 0)]) :: (ok, Own.ArrC Z .long [(jJ 0), (jJ 0), (jJ 0), (jJ 0)]) :: fr) O154) ?_
          rintro _ h155 ⟨rfl, O156⟩
          show Own.Goes _ _ _ _ _ _ _ _ _ _ _ _ _ _ _ _ _ (mkF m 208 #[.val (.ref o0), .val (.int (0 : Int32)), .val (.int (5 : Int32)), .val (.int (3 : Int32)), .val (.int (5 : Int32)), .val (.int (0 : Int32)), .val (.int (5 : Int32)), .val (.int (1 : Int32)), .val (.int f4)] [])
          have O157 : Own.Owns n0 h155 ((oc, Own.ArrC Z .int [(iI 1), (iI 1), (iI 3), (iI 1), (iI 1), (iI 0), (iI 0), (iI 0)]) :: (o0, WEo Z (.ref op) (.ref oc) (.ref of') (.ref ol) (.ref a3) (iI 0) (iI 3) (iI 0) (iI 0)) :: (a3, Own.ArrC Z .long [(jJ 0), (jJ 4294967297), (jJ 8589934594), (jJ 12884901891), (jJ 17179869188), (jJ 0), (jJ 0), (jJ 0), (jJ 0), (jJ 0)]) :: (of', Own.ArrC Z .int [(.int f0), (.int f1), (.int f2), (.int f3), (.int f4), (iI 0), (iI 0), (iI 0)]) :: (ol, Own.ArrC Z .int [(iI 0), (iI 0), (iI 0), (iI 0), (iI 0), (iI 0), (iI 0), (iI 0)]) :: (ok, Own.ArrC Z .long [(jJ 0), (jJ 0), (jJ 0), (jJ 0)]) :: fr) := O156.pick 2 rfl
          have O158 : Own.Owns n0 h155 ((o0, WEo Z (.ref op) (.ref oc) (.ref of') (.ref ol) (.ref a3) (iI 0) (iI 3) (iI 0) (iI 0)) :: (oc, Own.ArrC Z .int [(iI 1), (iI 1), (iI 3), (iI 1), (iI 1), (iI 0), (iI 0), (iI 0)]) :: (a3, Own.ArrC Z .long [(jJ 0), (jJ 4294967297), (jJ 8589934594), (jJ 12884901891), (jJ 17179869188), (jJ 0), (jJ 0), (jJ 0), (jJ 0), (jJ 0)]) :: (of', Own.ArrC Z .int [(.int f0), (.int f1), (.int f2), (.int f3), (.int f4), (iI 0), (iI 0), (iI 0)]) :: (ol, Own.ArrC Z .int [(iI 0), (iI 0), (iI 0), (iI 0), (iI 0), (iI 0), (iI 0), (iI 0)]) :: (ok, Own.ArrC Z .long [(jJ 0), (jJ 0), (jJ 0), (jJ 0)]) :: fr) := O157.pick 1 rfl
          have O159 : Own.Owns n0 h155 ((ok, Own.ArrC Z .long [(jJ 0), (jJ 0), (jJ 0), (jJ 0)]) :: (o0, WEo Z (.ref op) (.ref oc) (.ref of') (.ref ol) (.ref a3) (iI 0) (iI 3) (iI 0) (iI 0)) :: (oc, Own.ArrC Z .int [(iI 1), (iI 1), (iI 3), (iI 1), (iI 1), (iI 0), (iI 0), (iI 0)]) :: (a3, Own.ArrC Z .long [(jJ 0), (jJ 4294967297), (jJ 8589934594), (jJ 12884901891), (jJ 17179869188), (jJ 0), (jJ 0), (jJ 0), (jJ 0), (jJ 0)]) :: (of', Own.ArrC Z .int [(.int f0), (.int f1), (.int f2), (.int f3), (.int f4), (iI 0), (iI 0), (iI 0)]) :: (ol, Own.ArrC Z .int [(iI 0), (iI 0), (iI 0), (iI 0), (iI 0), (iI 0), (iI 0), (iI 0)]) :: fr) := O158.pick 5 rfl
          have O160 : Own.Owns n0 h155 ((ol, Own.ArrC Z .int [(iI 0), (iI 0), (iI 0), (iI 0), (iI 0), (iI 0), (iI 0), (iI 0)]) :: (ok, Own.ArrC Z .long [(jJ 0), (jJ 0), (jJ 0), (jJ 0)]) :: (o0, WEo Z (.ref op) (.ref oc) (.ref of') (.ref ol) (.ref a3) (iI 0) (iI 3) (iI 0) (iI 0)) :: (oc, Own.ArrC Z .int [(iI 1), (iI 1), (iI 3), (iI 1), (iI 1), (iI 0), (iI 0), (iI 0)]) :: (a3, Own.ArrC Z .long [(jJ 0), (jJ 4294967297), (jJ 8589934594), (jJ 12884901891), (jJ 17179869188), (jJ 0), (jJ 0), (jJ 0), (jJ 0), (jJ 0)]) :: (of', Own.ArrC Z .int [(.int f0), (.int f1), (.int f2), (.int f3), (.int f4), (iI 0), (iI 0), (iI 0)]) :: fr) := O159.pick 5 rfl
          have O161 : Own.Owns n0 h155 ((of', Own.ArrC Z .int [(.int f0), (.int f1), (.int f2), (.int f3), (.int f4), (iI 0), (iI 0), (iI 0)]) :: (ol, Own.ArrC Z .int [(iI 0), (iI 0), (iI 0), (iI 0), (iI 0), (iI 0), (iI 0), (iI 0)]) :: (ok, Own.ArrC Z .long [(jJ 0), (jJ 0), (jJ 0), (jJ 0)]) :: (o0, WEo Z (.ref op) (.ref oc) (.ref of') (.ref ol) (.ref a3) (iI 0) (iI 3) (iI 0) (iI 0)) :: (oc, Own.ArrC Z .int [(iI 1), (iI 1), (iI 3), (iI 1), (iI 1), (iI 0), (iI 0), (iI 0)]) :: (a3, Own.ArrC Z .long [(jJ 0), (jJ 4294967297), (jJ 8589934594), (jJ 12884901891), (jJ 17179869188), (jJ 0), (jJ 0), (jJ 0), (jJ 0), (jJ 0)]) :: fr) := O160.pick 5 rfl
          have O162 : Own.Owns n0 h155 ((a3, Own.ArrC Z .long [(jJ 0), (jJ 4294967297), (jJ 8589934594), (jJ 12884901891), (jJ 17179869188), (jJ 0), (jJ 0), (jJ 0), (jJ 0), (jJ 0)]) :: (of', Own.ArrC Z .int [(.int f0), (.int f1), (.int f2), (.int f3), (.int f4), (iI 0), (iI 0), (iI 0)]) :: (ol, Own.ArrC Z .int [(iI 0), (iI 0), (iI 0), (iI 0), (iI 0), (iI 0), (iI 0), (iI 0)]) :: (ok, Own.ArrC Z .long [(jJ 0), (jJ 0), (jJ 0), (jJ 0)]) :: (o0, WEo Z (.ref op) (.ref oc) (.ref of') (.ref ol) (.ref a3) (iI 0) (iI 3) (iI 0) (iI 0)) :: (oc, Own.ArrC Z .int [(iI 1), (iI 1), (iI 3), (iI 1), (iI 1), (iI 0), (iI 0), (iI 0)]) :: fr) := O161.pick 5 rfl
          exact Own.retV hx hret hlk (hb hby d11_208) (by decide) (by decide) ⟨[1, 1, 3, 1, 1, 0, 0, 0], (3 : Int32), a3, rfl, by rw [show dif f0 f1 = 1 from by rw [dif, if_neg hc30], show dif f1 f2 = 1 from by rw [dif, if_neg hc45], show dif f2 f3 = 0 from by rw [dif, if_pos hc60], show dif f3 f4 = 0 from by rw [← hc60, dif, if_pos hc124]]; decide +kernel, O162.tail.tail.tail.tail⟩
    · refine Own.aloadN hx (.ref o0) (hb hby d11_117) rfl rfl rfl ?_
      refine Own.getfield hx hZ hown O42 1 1 rfl rfl (hw _ (wm 36 rfl)) (hb hby d11_118) rfl ?_
      refine Own.iloadN hx (2 : Int32) (hb hby d11_121) rfl rfl ?_
      refine Own.iconst hx (1 : Int32) (hb hby d11_122) rfl (by decide) ?_
      refine Own.isub hx (hb hby d11_123) rfl ?_
      refine Own.vI (1 : Int32) (by decide) ?_
      refine Own.dup2 hx (hb hby d11_124) rfl rfl rfl ?_
      refine Own.iaload hx hZ O42 2 1 rfl (by decide) (v := (.int (1 : Int32))) rfl (hb hby d11_125) rfl ?_
      refine Own.iload hx (1 : Int32) (hb hby d11_126) rfl rfl ?_
      refine Own.iadd hx (hb hby d11_128) rfl ?_
      refine Own.vI (2 : Int32) (by decide) ?_
      refine Own.iastore hx hZ O42 2 1 rfl (by decide) (by exact (show 1 < 8 by decide)) ((a3, Own.ArrC Z .long [(jJ 0), (jJ 4294967297), (jJ 8589934594), (jJ 0), (jJ 0), (jJ 0), (jJ 0), (jJ 0), (jJ 0), (jJ 0)]) :: (o0, WEo Z (.ref op) (.ref oc) (.ref of') (.ref ol) (.ref a3) (iI 0) (iI 5) (iI 0) (iI 0)) :: (oc, Own.ArrC Z .int [(iI 1), (iI 2), (iI 1), (iI 1), (iI 1), (iI 0), (iI 0), (iI 0)]) :: (of', Own.ArrC Z .int [(.int f0), (.int f1), (.int f2), (.int f3), (.int f4), (iI 0), (iI 0), (iI 0)]) :: (ol, Own.ArrC Z .int [(iI 0), (iI 0), (iI 0), (iI 0), (iI 0), (iI 0), (iI 0), (iI 0)]) :: (ok, Own.ArrC Z .long [(jJ 0), (jJ 0), (jJ 0), (jJ 0)]) :: fr) rfl (hb hby d11_129) rfl ?_
      intro h163 O164
      refine Own.goto hx (hb hby d11_130) (by decide) (pc' := 165) rfl ?_
      refine Own.iload hx (2 : Int32) (hb hby d11_165) rfl rfl ?_
      refine Own.iload hx (1 : Int32) (hb hby d11_167) rfl rfl ?_
      refine Own.iadd hx (hb hby d11_169) rfl ?_
      refine Own.vI (3 : Int32) (by decide) ?_
      refine Own.istore hx (3 : Int32) rfl #[.val (.ref o0), .val (.int (0 : Int32)), .val (.int (3 : Int32)), .val (.int (2 : Int32)), .val (.int (3 : Int32)), .val (.int (0 : Int32)), .val (.int (2 : Int32)), .val (.int (1 : Int32)), .val (.int f2)] (hb hby d11_170) rfl rfl ?_
      refine Own.iinc hx (3 : Int32) #[.val (.ref o0), .val (.int (0 : Int32)), .val (.int (3 : Int32)), .val (.int (2 : Int32)), .val (.int (3 : Int32)), .val (.int (0 : Int32)), .val (.int (3 : Int32)), .val (.int (1 : Int32)), .val (.int f2)] (hb hby d11_172) rfl rfl (by decide) rfl ?_
      refine Own.goto hx (hb hby d11_175) (by decide) (pc' := 37) rfl ?_
      refine Own.iload hx (3 : Int32) (hb hby d11_37) rfl rfl ?_
      refine Own.aloadN hx (.ref o0) (hb hby d11_39) rfl rfl rfl ?_
      refine Own.getfield hx hZ hown O164 1 6 rfl rfl (hw _ (wm 55 rfl)) (hb hby d11_40) rfl ?_
      have hc165 : (3 : Int32) < (5 : Int32) := by decide
      refine Own.icmpFn hx (Own.q_ge (3 : Int32) (5 : Int32)) (hb hby d11_43) (pcN := 46) rfl (by decide) (pcT := 178) rfl (fun q => absurd hc165 q) (fun _ => ?_)
      refine Own.aloadN hx (.ref o0) (hb hby d11_46) rfl rfl rfl ?_
      refine Own.getfield hx hZ hown O164 1 1 rfl rfl (hw _ (wm 36 rfl)) (hb hby d11_47) rfl ?_
      refine Own.iload hx (3 : Int32) (hb hby d11_50) rfl rfl ?_
      refine Own.iaload hx hZ O164 2 3 rfl (by decide) (v := (.int (1 : Int32))) rfl (hb hby d11_52) rfl ?_
      refine Own.istore hx (1 : Int32) rfl #[.val (.ref o0), .val (.int (0 : Int32)), .val (.int (3 : Int32)), .val (.int (2 : Int32)), .val (.int (3 : Int32)), .val (.int (0 : Int32)), .val (.int (3 : Int32)), .val (.int (1 : Int32)), .val (.int f2)] (hb hby d11_53) rfl rfl ?_
      refine Own.aloadN hx (.ref o0) (hb hby d11_55) rfl rfl rfl ?_
      refine Own.getfield hx hZ hown O164 1 2 rfl rfl (hw _ (wm 38 rfl)) (hb hby d11_56) rfl ?_
      refine Own.iload hx (3 : Int32) (hb hby d11_59) rfl rfl ?_
      refine Own.iaload hx hZ O164 3 3 rfl (by decide) (v := (.int f3)) rfl (hb hby d11_61) rfl ?_
      refine Own.istore hx f3 rfl #[.val (.ref o0), .val (.int (0 : Int32)), .val (.int (3 : Int32)), .val (.int (2 : Int32)), .val (.int (3 : Int32)), .val (.int (0 : Int32)), .val (.int (3 : Int32)), .val (.int (1 : Int32)), .val (.int f3)] (hb hby d11_62) rfl rfl ?_
      refine Own.iload hx f3 (hb hby d11_64) rfl rfl ?_
      refine Own.iloadN hx (0 : Int32) (hb hby d11_66) rfl rfl ?_
      have hc167 : ¬ (f3 = (0 : Int32)) := hz3
      refine Own.icmpFn hx (Own.q_ne f3 (0 : Int32)) (hb hby d11_67) (pcN := 70) rfl (by decide) (pcT := 76) rfl (fun _ => ?_) (fun q => absurd q hc167)
      refine Own.aloadN hx (.ref o0) (hb hby d11_76) rfl rfl rfl ?_
      refine Own.getfield hx hZ hown O164 1 4 rfl rfl (hw _ (wm 42 rfl)) (hb hby d11_77) rfl ?_
      refine Own.iloadN hx (3 : Int32) (hb hby d11_80) rfl rfl ?_
      refine Own.iinc hx (4 : Int32) #[.val (.ref o0), .val (.int (0 : Int32)), .val (.int (4 : Int32)), .val (.int (2 : Int32)), .val (.int (3 : Int32)), .val (.int (0 : Int32)), .val (.int (3 : Int32)), .val (.int (1 : Int32)), .val (.int f3)] (hb hby d11_81) rfl rfl (by decide) rfl ?_
      refine Own.iload hx (3 : Int32) (hb hby d11_84) rfl rfl ?_
      refine Own.i2l hx (hb hby d11_86) rfl ?_
      refine Own.vL (3 : Int64) (by decide) ?_
      refine Own.bipush hx (32 : Int32) (hb hby d11_87) rfl (by decide) ?_
      refine Own.lshl hx (hb hby d11_89) rfl ?_
      refine Own.vL (12884901888 : Int64) (by decide) ?_
      refine Own.iload hx (3 : Int32) (hb hby d11_90) rfl rfl ?_
      refine Own.iload hx (1 : Int32) (hb hby d11_92) rfl rfl ?_
      refine Own.iadd hx (hb hby d11_94) rfl ?_
      refine Own.vI (4 : Int32) (by decide) ?_
      refine Own.iconst hx (1 : Int32) (hb hby d11_95) rfl (by decide) ?_
      refine Own.isub hx (hb hby d11_96) rfl ?_
      refine Own.vI (3 : Int32) (by decide) ?_
      refine Own.i2l hx (hb hby d11_97) rfl ?_
      refine Own.vL (3 : Int64) (by decide) ?_
      refine Own.lor hx (hb hby d11_98) rfl ?_
      refine Own.vL (12884901891 : Int64) (by decide) ?_
      refine Own.lastore hx hZ O164 0 3 rfl (by decide) (by exact (show 3 < 10 by decide)) ((a3, Own.ArrC Z .long [(jJ 0), (jJ 4294967297), (jJ 8589934594), (jJ 12884901891), (jJ 0), (jJ 0), (jJ 0), (jJ 0), (jJ 0), (jJ 0)]) :: (o0, WEo Z (.ref op) (.ref oc) (.ref of') (.ref ol) (.ref a3) (iI 0) (iI 5) (iI 0) (iI 0)) :: (oc, Own.ArrC Z .int [(iI 1), (iI 2), (iI 1), (iI 1), (iI 1), (iI 0), (iI 0), (iI 0)]) :: (of', Own.ArrC Z .int [(.int f0), (.int f1), (.int f2), (.int f3), (.int f4), (iI 0), (iI 0), (iI 0)]) :: (ol, Own.ArrC Z .int [(iI 0), (iI 0), (iI 0), (iI 0), (iI 0), (iI 0), (iI 0), (iI 0)]) :: (ok, Own.ArrC Z .long [(jJ 0), (jJ 0), (jJ 0), (jJ 0)]) :: fr) rfl (hb hby d11_99) rfl ?_
      intro h169 O170
      refine Own.iloadN hx (2 : Int32) (hb hby d11_100) rfl rfl ?_
      have hc171 : (0 : Int32) < (2 : Int32) := by decide
      refine Own.ifFn hx (Own.z_le (2 : Int32)) (hb hby d11_101) (pcN := 104) rfl (by decide) (pcT := 133) rfl (fun q => absurd hc171 q) (fun _ => ?_)
      refine Own.aloadN hx (.ref o0) (hb hby d11_104) rfl rfl rfl ?_
      refine Own.getfield hx hZ hown O170 1 2 rfl rfl (hw _ (wm 38 rfl)) (hb hby d11_105) rfl ?_
      refine Own.iloadN hx (2 : Int32) (hb hby d11_108) rfl rfl ?_
      refine Own.iconst hx (1 : Int32) (hb hby d11_109) rfl (by decide) ?_
      refine Own.isub hx (hb hby d11_110) rfl ?_
      refine Own.vI (1 : Int32) (by decide) ?_
      refine Own.iaload hx hZ O170 3 1 rfl (by decide) (v := (.int f1)) rfl (hb hby d11_111) rfl ?_
      refine Own.iload hx f3 (hb hby d11_112) rfl rfl ?_
      refine Own.icmpFn hx (Own.q_ne f1 f3) (hb hby d11_114) (pcN := 117) rfl (by decide) (pcT := 133) rfl (fun hc173 => ?_) (fun hc173 => ?_)
      · refine Own.aloadN hx (.ref o0) (hb hby d11_133) rfl rfl rfl ?_
        refine Own.getfield hx hZ hown O170 1 1 rfl rfl (hw _ (wm 36 rfl)) (hb hby d11_134) rfl ?_
        refine Own.iloadN hx (2 : Int32) (hb hby d11_137) rfl rfl ?_
        refine Own.iload hx (1 : Int32) (hb hby d11_138) rfl rfl ?_
        refine Own.iastore hx hZ O170 2 2 rfl (by decide) (by exact (show 2 < 8 by decide)) ((a3, Own.ArrC Z .long [(jJ 0), (jJ 4294967297), (jJ 8589934594), (jJ 12884901891), (jJ 0), (jJ 0), (jJ 0), (jJ 0), (jJ 0), (jJ 0)]) :: (o0, WEo Z (.ref op) (.ref oc) (.ref of') (.ref ol) (.ref a3) (iI 0) (iI 5) (iI 0) (iI 0)) :: (oc, Own.ArrC Z .int [(iI 1), (iI 2), (iI 1), (iI 1), (iI 1), (iI 0), (iI 0), (iI 0)]) :: (of', Own.ArrC Z .int [(.int f0), (.int f1), (.int f2), (.int f3), (.int f4), (iI 0), (iI 0), (iI 0)]) :: (ol, Own.ArrC Z .int [(iI 0), (iI 0), (iI 0), (iI 0), (iI 0), (iI 0), (iI 0), (iI 0)]) :: (ok, Own.ArrC Z .long [(jJ 0), (jJ 0), (jJ 0), (jJ 0)]) :: fr) rfl (hb hby d11_140) rfl ?_
        intro h174 O175
        refine Own.aloadN hx (.ref o0) (hb hby d11_141) rfl rfl rfl ?_
        refine Own.getfield hx hZ hown O175 1 2 rfl rfl (hw _ (wm 38 rfl)) (hb hby d11_142) rfl ?_
        refine Own.iloadN hx (2 : Int32) (hb hby d11_145) rfl rfl ?_
        refine Own.iload hx f3 (hb hby d11_146) rfl rfl ?_
        refine Own.iastore hx hZ O175 3 2 rfl (by decide) (by exact (show 2 < 8 by decide)) ((a3, Own.ArrC Z .long [(jJ 0), (jJ 4294967297), (jJ 8589934594), (jJ 12884901891), (jJ 0), (jJ 0), (jJ 0), (jJ 0), (jJ 0), (jJ 0)]) :: (o0, WEo Z (.ref op) (.ref oc) (.ref of') (.ref ol) (.ref a3) (iI 0) (iI 5) (iI 0) (iI 0)) :: (oc, Own.ArrC Z .int [(iI 1), (iI 2), (iI 1), (iI 1), (iI 1), (iI 0), (iI 0), (iI 0)]) :: (of', Own.ArrC Z .int [(.int f0), (.int f1), (.int f3), (.int f3), (.int f4), (iI 0), (iI 0), (iI 0)]) :: (ol, Own.ArrC Z .int [(iI 0), (iI 0), (iI 0), (iI 0), (iI 0), (iI 0), (iI 0), (iI 0)]) :: (ok, Own.ArrC Z .long [(jJ 0), (jJ 0), (jJ 0), (jJ 0)]) :: fr) rfl (hb hby d11_148) rfl ?_
        intro h176 O177
        refine Own.aloadN hx (.ref o0) (hb hby d11_149) rfl rfl rfl ?_
        refine Own.getfield hx hZ hown O177 1 3 rfl rfl (hw _ (wm 40 rfl)) (hb hby d11_150) rfl ?_
        refine Own.iloadN hx (2 : Int32) (hb hby d11_153) rfl rfl ?_
        refine Own.iinc hx (3 : Int32) #[.val (.ref o0), .val (.int (0 : Int32)), .val (.int (4 : Int32)), .val (.int (3 : Int32)), .val (.int (3 : Int32)), .val (.int (0 : Int32)), .val (.int (3 : Int32)), .val (.int (1 : Int32)), .val (.int f3)] (hb hby d11_154) rfl rfl (by decide) rfl ?_
        refine Own.aloadN hx (.ref o0) (hb hby d11_157) rfl rfl rfl ?_
        refine Own.getfield hx hZ hown O177 1 3 rfl rfl (hw _ (wm 40 rfl)) (hb hby d11_158) rfl ?_
        refine Own.iload hx (3 : Int32) (hb hby d11_161) rfl rfl ?_
        refine Own.iaload hx hZ O177 4 3 rfl (by decide) (v := (.int (0 : Int32))) rfl (hb hby d11_163) rfl ?_
        refine Own.iastore hx hZ O177 4 2 rfl (by decide) (by exact (show 2 < 8 by decide)) ((a3, Own.ArrC Z .long [(jJ 0), (jJ 4294967297), (jJ 8589934594), (jJ 12884901891), (jJ 0), (jJ 0), (jJ 0), (jJ 0), (jJ 0), (jJ 0)]) :: (o0, WEo Z (.ref op) (.ref oc) (.ref of') (.ref ol) (.ref a3) (iI 0) (iI 5) (iI 0) (iI 0)) :: (oc, Own.ArrC Z .int [(iI 1), (iI 2), (iI 1), (iI 1), (iI 1), (iI 0), (iI 0), (iI 0)]) :: (of', Own.ArrC Z .int [(.int f0), (.int f1), (.int f3), (.int f3), (.int f4), (iI 0), (iI 0), (iI 0)]) :: (ol, Own.ArrC Z .int [(iI 0), (iI 0), (iI 0), (iI 0), (iI 0), (iI 0), (iI 0), (iI 0)]) :: (ok, Own.ArrC Z .long [(jJ 0), (jJ 0), (jJ 0), (jJ 0)]) :: fr) rfl (hb hby d11_164) rfl ?_
        intro h178 O179
        refine Own.iload hx (3 : Int32) (hb hby d11_165) rfl rfl ?_
        refine Own.iload hx (1 : Int32) (hb hby d11_167) rfl rfl ?_
        refine Own.iadd hx (hb hby d11_169) rfl ?_
        refine Own.vI (4 : Int32) (by decide) ?_
        refine Own.istore hx (4 : Int32) rfl #[.val (.ref o0), .val (.int (0 : Int32)), .val (.int (4 : Int32)), .val (.int (3 : Int32)), .val (.int (4 : Int32)), .val (.int (0 : Int32)), .val (.int (3 : Int32)), .val (.int (1 : Int32)), .val (.int f3)] (hb hby d11_170) rfl rfl ?_
        refine Own.iinc hx (4 : Int32) #[.val (.ref o0), .val (.int (0 : Int32)), .val (.int (4 : Int32)), .val (.int (3 : Int32)), .val (.int (4 : Int32)), .val (.int (0 : Int32)), .val (.int (4 : Int32)), .val (.int (1 : Int32)), .val (.int f3)] (hb hby d11_172) rfl rfl (by decide) rfl ?_
        refine Own.goto hx (hb hby d11_175) (by decide) (pc' := 37) rfl ?_
        refine Own.iload hx (4 : Int32) (hb hby d11_37) rfl rfl ?_
        refine Own.aloadN hx (.ref o0) (hb hby d11_39) rfl rfl rfl ?_
        refine Own.getfield hx hZ hown O179 1 6 rfl rfl (hw _ (wm 55 rfl)) (hb hby d11_40) rfl ?_
        have hc180 : (4 : Int32) < (5 : Int32) := by decide
        refine Own.icmpFn hx (Own.q_ge (4 : Int32) (5 : Int32)) (hb hby d11_43) (pcN := 46) rfl (by decide) (pcT := 178) rfl (fun q => absurd hc180 q) (fun _ => ?_)
        refine Own.aloadN hx (.ref o0) (hb hby d11_46) rfl rfl rfl ?_
        refine Own.getfield hx hZ hown O179 1 1 rfl rfl (hw _ (wm 36 rfl)) (hb hby d11_47) rfl ?_
        refine Own.iload hx (4 : Int32) (hb hby d11_50) rfl rfl ?_
        refine Own.iaload hx hZ O179 2 4 rfl (by decide) (v := (.int (1 : Int32))) rfl (hb hby d11_52) rfl ?_
        refine Own.istore hx (1 : Int32) rfl #[.val (.ref o0), .val (.int (0 : Int32)), .val (.int (4 : Int32)), .val (.int (3 : Int32)), .val (.int (4 : Int32)), .val (.int (0 : Int32)), .val (.int (4 : Int32)), .val (.int (1 : Int32)), .val (.int f3)] (hb hby d11_53) rfl rfl ?_
        refine Own.aloadN hx (.ref o0) (hb hby d11_55) rfl rfl rfl ?_
        refine Own.getfield hx hZ hown O179 1 2 rfl rfl (hw _ (wm 38 rfl)) (hb hby d11_56) rfl ?_
        refine Own.iload hx (4 : Int32) (hb hby d11_59) rfl rfl ?_
        refine Own.iaload hx hZ O179 3 4 rfl (by decide) (v := (.int f4)) rfl (hb hby d11_61) rfl ?_
        refine Own.istore hx f4 rfl #[.val (.ref o0), .val (.int (0 : Int32)), .val (.int (4 : Int32)), .val (.int (3 : Int32)), .val (.int (4 : Int32)), .val (.int (0 : Int32)), .val (.int (4 : Int32)), .val (.int (1 : Int32)), .val (.int f4)] (hb hby d11_62) rfl rfl ?_
        refine Own.iload hx f4 (hb hby d11_64) rfl rfl ?_
        refine Own.iloadN hx (0 : Int32) (hb hby d11_66) rfl rfl ?_
        have hc182 : ¬ (f4 = (0 : Int32)) := hz4
        refine Own.icmpFn hx (Own.q_ne f4 (0 : Int32)) (hb hby d11_67) (pcN := 70) rfl (by decide) (pcT := 76) rfl (fun _ => ?_) (fun q => absurd q hc182)
        refine Own.aloadN hx (.ref o0) (hb hby d11_76) rfl rfl rfl ?_
        refine Own.getfield hx hZ hown O179 1 4 rfl rfl (hw _ (wm 42 rfl)) (hb hby d11_77) rfl ?_
        refine Own.iloadN hx (4 : Int32) (hb hby d11_80) rfl rfl ?_
        refine Own.iinc hx (5 : Int32) #[.val (.ref o0), .val (.int (0 : Int32)), .val (.int (5 : Int32)), .val (.int (3 : Int32)), .val (.int (4 : Int32)), .val (.int (0 : Int32)), .val (.int (4 : Int32)), .val (.int (1 : Int32)), .val (.int f4)] (hb hby d11_81) rfl rfl (by decide) rfl ?_
        refine Own.iload hx (4 : Int32) (hb hby d11_84) rfl rfl ?_
        refine Own.i2l hx (hb hby d11_86) rfl ?_
        refine Own.vL (4 : Int64) (by decide) ?_
        refine Own.bipush hx (32 : Int32) (hb hby d11_87) rfl (by decide) ?_
        refine Own.lshl hx (hb hby d11_89) rfl ?_
        refine Own.vL (17179869184 : Int64) (by decide) ?_
        refine Own.iload hx (4 : Int32) (hb hby d11_90) rfl rfl ?_
        refine Own.iload hx (1 : Int32) (hb hby d11_92) rfl rfl ?_
        refine Own.iadd hx (hb hby d11_94) rfl ?_
        refine Own.vI (5 : Int32) (by decide) ?_
        refine Own.iconst hx (1 : Int32) (hb hby d11_95) rfl (by decide) ?_
        refine Own.isub hx (hb hby d11_96) rfl ?_
        refine Own.vI (4 : Int32) (by decide) ?_
        refine Own.i2l hx (hb hby d11_97) rfl ?_
        refine Own.vL (4 : Int64) (by decide) ?_
        refine Own.lor hx (hb hby d11_98) rfl ?_
        refine Own.vL (17179869188 : Int64) (by decide) ?_
        refine Own.lastore hx hZ O179 0 4 rfl (by decide) (by exact (show 4 < 10 by decide)) ((a3, Own.ArrC Z .long [(jJ 0), (jJ 4294967297), (jJ 8589934594), (jJ 12884901891), (jJ 17179869188), (jJ 0), (jJ 0), (jJ 0), (jJ 0), (jJ 0)]) :: (o0, WEo Z (.ref op) (.ref oc) (.ref of') (.ref ol) (.ref a3) (iI 0) (iI 5) (iI 0) (iI 0)) :: (oc, Own.ArrC Z .int [(iI 1), (iI 2), (iI 1), (iI 1), (iI 1), (iI 0), (iI 0), (iI 0)]) :: (of', Own.ArrC Z .int [(.int f0), (.int f1), (.int f3), (.int f3), (.int f4), (iI 0), (iI 0), (iI 0)]) :: (ol, Own.ArrC Z .int [(iI 0), (iI 0), (iI 0), (iI 0), (iI 0), (iI 0), (iI 0), (iI 0)]) :: (ok, Own.ArrC Z .long [(jJ 0), (jJ 0), (jJ 0), (jJ 0)]) :: fr) rfl (hb hby d11_99) rfl ?_
        intro h184 O185
        refine Own.iloadN hx (3 : Int32) (hb hby d11_100) rfl rfl ?_
        have hc186 : (0 : Int32) < (3 : Int32) := by decide
        refine Own.ifFn hx (Own.z_le (3 : Int32)) (hb hby d11_101) (pcN := 104) rfl (by decide) (pcT := 133) rfl (fun q => absurd hc186 q) (fun _ => ?_)
        refine Own.aloadN hx (.ref o0) (hb hby d11_104) rfl rfl rfl ?_
        refine Own.getfield hx hZ hown O185 1 2 rfl rfl (hw _ (wm 38 rfl)) (hb hby d11_105) rfl ?_
        refine Own.iloadN hx (3 : Int32) (hb hby d11_108) rfl rfl ?_
        refine Own.iconst hx (1 : Int32) (hb hby d11_109) rfl (by decide) ?_
        refine Own.isub hx (hb hby d11_110) rfl ?_
        refine Own.vI (2 : Int32) (by decide) ?_
        refine Own.iaload hx hZ O185 3 2 rfl (by decide) (v := (.int f3)) rfl (hb hby d11_111) rfl ?_
        refine Own.iload hx f4 (hb hby d11_112) rfl rfl ?_
        refine Own.icmpFn hx (Own.q_ne f3 f4) (hb hby d11_114) (pcN := 117) rfl (by decide) (pcT := 133) rfl (fun hc188 => ?_) (fun hc188 => ?_)
        · refine Own.aloadN hx (.ref o0) (hb hby d11_133) rfl rfl rfl ?_
          refine Own.getfield hx hZ hown O185 1 1 rfl rfl (hw _ (wm 36 rfl)) (hb hby d11_134) rfl ?_
          refine Own.iloadN hx (3 : Int32) (hb hby d11_137) rfl rfl ?_
          refine Own.iload hx (1 : Int32) (hb hby d11_138) rfl rfl ?_
          refine Own.iastore hx hZ O185 2 3 rfl (by decide) (by exact (show 3 < 8 by decide)) ((a3, Own.ArrC Z .long [(jJ 0), (jJ 4294967297), (jJ 8589934594), (jJ 12884901891), (jJ 17179869188), (jJ 0), (jJ 0), (jJ 0), (jJ 0), (jJ 0)]) :: (o0, WEo Z (.ref op) (.ref oc) (.ref of') (.ref ol) (.ref a3) (iI 0) (iI 5) (iI 0) (iI 0)) :: (oc, Own.ArrC Z .int [(iI 1), (iI 2), (iI 1), (iI 1), (iI 1), (iI 0), (iI 0), (iI 0)]) :: (of', Own.ArrC Z .int [(.int f0), (.int f1), (.int f3), (.int f3), (.int f4), (iI 0), (iI 0), (iI 0)]) :: (ol, Own.ArrC Z .int [(iI 0), (iI 0), (iI 0), (iI 0), (iI 0), (iI 0), (iI 0), (iI 0)]) :: (ok, Own.ArrC Z .long [(jJ 0), (jJ 0), (jJ 0), (jJ 0)]) :: fr) rfl (hb hby d11_140) rfl ?_
          intro h189 O190
          refine Own.aloadN hx (.ref o0) (hb hby d11_141) rfl rfl rfl ?_
          refine Own.getfield hx hZ hown O190 1 2 rfl rfl (hw _ (wm 38 rfl)) (hb hby d11_142) rfl ?_
          refine Own.iloadN hx (3 : Int32) (hb hby d11_145) rfl rfl ?_
          refine Own.iload hx f4 (hb hby d11_146) rfl rfl ?_
          refine Own.iastore hx hZ O190 3 3 rfl (by decide) (by exact (show 3 < 8 by decide)) ((a3, Own.ArrC Z .long [(jJ 0), (jJ 4294967297), (jJ 8589934594), (jJ 12884901891), (jJ 17179869188), (jJ 0), (jJ 0), (jJ 0), (jJ 0), (jJ 0)]) :: (o0, WEo Z (.ref op) (.ref oc) (.ref of') (.ref ol) (.ref a3) (iI 0) (iI 5) (iI 0) (iI 0)) :: (oc, Own.ArrC Z .int [(iI 1), (iI 2), (iI 1), (iI 1), (iI 1), (iI 0), (iI 0), (iI 0)]) :: (of', Own.ArrC Z .int [(.int f0), (.int f1), (.int f3), (.int f4), (.int f4), (iI 0), (iI 0), (iI 0)]) :: (ol, Own.ArrC Z .int [(iI 0), (iI 0), (iI 0), (iI 0), (iI 0), (iI 0), (iI 0), (iI 0)]) :: (ok, Own.ArrC Z .long [(jJ 0), (jJ 0), (jJ 0), (jJ 0)]) :: fr) rfl (hb hby d11_148) rfl ?_
          intro h191 O192
          refine Own.aloadN hx (.ref o0) (hb hby d11_149) rfl rfl rfl ?_
          refine Own.getfield hx hZ hown O192 1 3 rfl rfl (hw _ (wm 40 rfl)) (hb hby d11_150) rfl ?_
          refine Own.iloadN hx (3 : Int32) (hb hby d11_153) rfl rfl ?_
          refine Own.iinc hx (4 : Int32) #[.val (.ref o0), .val (.int (0 : Int32)), .val (.int (5 : Int32)), .val (.int (4 : Int32)), .val (.int (4 : Int32)), .val (.int (0 : Int32)), .val (.int (4 : Int32)), .val (.int (1 : Int32)), .val (.int f4)] (hb hby d11_154) rfl rfl (by decide) rfl ?_
          refine Own.aloadN hx (.ref o0) (hb hby d11_157) rfl rfl rfl ?_
          refine Own.getfield hx hZ hown O192 1 3 rfl rfl (hw _ (wm 40 rfl)) (hb hby d11_158) rfl ?_
          refine Own.iload hx (4 : Int32) (hb hby d11_161) rfl rfl ?_
          refine Own.iaload hx hZ O192 4 4 rfl (by decide) (v := (.int (0 : Int32))) rfl (hb hby d11_163) rfl ?_
          refine Own.iastore hx hZ O192 4 3 rfl (by decide) (by exact (show 3 < 8 by decide)) ((a3, Own.ArrC Z .long [(jJ 0), (jJ 4294967297), (jJ 8589934594), (jJ 12884901891), (jJ 17179869188), (jJ 0), (jJ 0), (jJ 0), (jJ 0), (jJ 0)]) :: (o0, WEo Z (.ref op) (.ref oc) (.ref of') (.ref ol) (.ref a3) (iI 0) (iI 5) (iI 0) (iI 0)) :: (oc, Own.ArrC Z .int [(iI 1), (iI 2), (iI 1), (iI 1), (iI 1), (iI 0), (iI 0), (iI 0)]) :: (of', Own.ArrC Z .int [(.int f0), (.int f1), (.int f3), (.int f4), (.int f4), (iI 0), (iI 0), (iI 0)]) :: (ol, Own.ArrC Z .int [(iI 0), (iI 0), (iI 0), (iI 0), (iI 0), (iI 0), (iI 0), (iI 0)]) :: (ok, Own.ArrC Z .long [(jJ 0), (jJ 0), (jJ 0), (jJ 0)]) :: fr) rfl (hb hby d11_164) rfl ?_
          intro h193 O194
          refine Own.iload hx (4 : Int32) (hb hby d11_165) rfl rfl ?_
          refine Own.iload hx (1 : Int32) (hb hby d11_167) rfl rfl ?_
          refine Own.iadd hx (hb hby d11_169) rfl ?_
          refine Own.vI (5 : Int32) (by decide) ?_
          refine Own.istore hx (5 : Int32) rfl #[.val (.ref o0), .val (.int (0 : Int32)), .val (.int (5 : Int32)), .val (.int (4 : Int32)), .val (.int (5 : Int32)), .val (.int (0 : Int32)), .val (.int (4 : Int32)), .val (.int (1 : Int32)), .val (.int f4)] (hb hby d11_170) rfl rfl ?_
          refine Own.iinc hx (5 : Int32) #[.val (.ref o0), .val (.int (0 : Int32)), .val (.int (5 : Int32)), .val (.int (4 : Int32)), .val (.int (5 : Int32)), .val (.int (0 : Int32)), .val (.int (5 : Int32)), .val (.int (1 : Int32)), .val (.int f4)] (hb hby d11_172) rfl rfl (by decide) rfl ?_
          refine Own.goto hx (hb hby d11_175) (by decide) (pc' := 37) rfl ?_
          refine Own.iload hx (5 : Int32) (hb hby d11_37) rfl rfl ?_
          refine Own.aloadN hx (.ref o0) (hb hby d11_39) rfl rfl rfl ?_
          refine Own.getfield hx hZ hown O194 1 6 rfl rfl (hw _ (wm 55 rfl)) (hb hby d11_40) rfl ?_
          have hc195 : ¬ ((5 : Int32) < (5 : Int32)) := by decide
          refine Own.icmpFn hx (Own.q_ge (5 : Int32) (5 : Int32)) (hb hby d11_43) (pcN := 46) rfl (by decide) (pcT := 178) rfl (fun _ => ?_) (fun q => absurd q hc195)
          refine Own.iload hx (0 : Int32) (hb hby d11_178) rfl rfl ?_
          have hc197 : (0 : Int32) = (0 : Int32) := by decide
          refine Own.ifF hx (Own.z_eq (0 : Int32)) (hb hby d11_180) (pcN := 183) rfl (by decide) (pcT := 199) rfl (fun _ => ?_) (fun q => absurd hc197 q)
          refine Own.aloadN hx (.ref o0) (hb hby d11_199) rfl rfl rfl ?_
          refine Own.iloadN hx (4 : Int32) (hb hby d11_200) rfl rfl ?_
          refine Own.putfield hx hZ hown O194 1 6 rfl rfl (hw _ (wm 55 rfl)) (Or.inl (hw _ (wm 56 rfl))) (hw _ (wm 2 rfl)) (ty := .int) (by decide) rfl rfl ((a3, Own.ArrC Z .long [(jJ 0), (jJ 4294967297), (jJ 8589934594), (jJ 12884901891), (jJ 17179869188), (jJ 0), (jJ 0), (jJ 0), (jJ 0), (jJ 0)]) :: (o0, WEo Z (.ref op) (.ref oc) (.ref of') (.ref ol) (.ref a3) (iI 0) (iI 4) (iI 0) (iI 0)) :: (oc, Own.ArrC Z .int [(iI 1), (iI 2), (iI 1), (iI 1), (iI 1), (iI 0), (iI 0), (iI 0)]) :: (of', Own.ArrC Z .int [(.int f0), (.int f1), (.int f3), (.int f4), (.int f4), (iI 0), (iI 0), (iI 0)]) :: (ol, Own.ArrC Z .int [(iI 0), (iI 0), (iI 0), (iI 0), (iI 0), (iI 0), (iI 0), (iI 0)]) :: (ok, Own.ArrC Z .long [(jJ 0), (jJ 0), (jJ 0), (jJ 0)]) :: fr) rfl (hb hby d11_201) rfl ?_
          intro h199 O200
          refine Own.aloadN hx (.ref o0) (hb hby d11_204) rfl rfl rfl ?_
          have O201 : Own.Owns n0 h199 ((o0, WEo Z (.ref op) (.ref oc) (.ref of') (.ref ol) (.ref a3) (iI 0) (iI 4) (iI 0) (iI 0)) :: (a3, Own.ArrC Z .long [(jJ 0), (jJ 4294967297), (jJ 8589934594), (jJ 12884901891), (jJ 17179869188), (jJ 0), (jJ 0), (jJ 0), (jJ 0), (jJ 0)]) :: (oc, Own.ArrC Z .int [(iI 1), (iI 2), (iI 1), (iI 1), (iI 1), (iI 0), (iI 0), (iI 0)]) :: (of', Own.ArrC Z .int [(.int f0), (.int f1), (.int f3), (.int f4), (.int f4), (iI 0), (iI 0), (iI 0)]) :: (ol, Own.ArrC Z .int [(iI 0), (iI 0), (iI 0), (iI 0), (iI 0), (iI 0), (iI 0), (iI 0)]) :: (ok, Own.ArrC Z .long [(jJ 0), (jJ 0), (jJ 0), (jJ 0)]) :: fr) := O200.pick 1 rfl
          refine Own.callP hx hZ hown (O201.exa (i := 0) rfl) (hw _ (wm 90 rfl)) (hw _ (wm 91 rfl)) (hw _ (wm 2 rfl)) (hw _ (wm 92 rfl)) (hw _ (wm 3 rfl)) (hw _ (wm 93 rfl)) (by decide) pd0 (argsL := []) (rest := []) rfl (W := 0) (Nat.le_of_eq rfl) (rm := ({ frames := 0, cells := 0, slots := 0, locals := 0 } : Room)) (by decide) (by decide) (by decide) (by decide) (k' := 1) (n' := 10) rfl rfl (by rw [hml]; rfl) [(.ref o0)] rfl (hb hby d11_205) (pc' := 208) rfl (rm12 l Z a0 hw o0 h199 n0 op oc of' ol a3 (4 : Int32) (0 : Int32) (0 : Int32) ((a3, Own.ArrC Z .long [(jJ 0), (jJ 4294967297), (jJ 8589934594), (jJ 12884901891), (jJ 17179869188), (jJ 0), (jJ 0), (jJ 0), (jJ 0), (jJ 0)]) :: (oc, Own.ArrC Z .int [(iI 1), (iI 2), (iI 1), (iI 1), (iI 1), (iI 0), (iI 0), (iI 0)]) :: (of', Own.ArrC Z .int [(.int f0), (.int f1), (.int f3), (.int f4), (.int f4), (iI 0), (iI 0), (iI 0)]) :: (ol, Own.ArrC Z .int [(iI 0), (iI 0), (iI 0), (iI 0), (iI 0), (iI 0), (iI 0), (iI 0)]) :: (ok, Own.ArrC Z .long [(jJ 0), (jJ 0), (jJ 0), (jJ 0)]) :: fr) O201) ?_
          rintro _ h202 ⟨rfl, O203⟩
          show Own.Goes _ _ _ _ _ _ _ _ _ _ _ _ _ _ _ _ _ (mkF m 208 #[.val (.ref o0), .val (.int (0 : Int32)), .val (.int (5 : Int32)), .val (.int (4 : Int32)), .val (.int (5 : Int32)), .val (.int (0 : Int32)), .val (.int (5 : Int32)), .val (.int (1 : Int32)), .val (.int f4)] [])
          have O204 : Own.Owns n0 h202 ((oc, Own.ArrC Z .int [(iI 1), (iI 2), (iI 1), (iI 1), (iI 1), (iI 0), (iI 0), (iI 0)]) :: (o0, WEo Z (.ref op) (.ref oc) (.ref of') (.ref ol) (.ref a3) (iI 0) (iI 4) (iI 0) (iI 0)) :: (a3, Own.ArrC Z .long [(jJ 0), (jJ 4294967297), (jJ 8589934594), (jJ 12884901891), (jJ 17179869188), (jJ 0), (jJ 0), (jJ 0), (jJ 0), (jJ 0)]) :: (of', Own.ArrC Z .int [(.int f0), (.int f1), (.int f3), (.int f4), (.int f4), (iI 0), (iI 0), (iI 0)]) :: (ol, Own.ArrC Z .int [(iI 0), (iI 0), (iI 0), (iI 0), (iI 0), (iI 0), (iI 0), (iI 0)]) :: (ok, Own.ArrC Z .long [(jJ 0), (jJ 0), (jJ 0), (jJ 0)]) :: fr) := O203.pick 2 rfl
          have O205 : Own.Owns n0 h202 ((o0, WEo Z (.ref op) (.ref oc) (.ref of') (.ref ol) (.ref a3) (iI 0) (iI 4) (iI 0) (iI 0)) :: (oc, Own.ArrC Z .int [(iI 1), (iI 2), (iI 1), (iI 1), (iI 1), (iI 0), (iI 0), (iI 0)]) :: (a3, Own.ArrC Z .long [(jJ 0), (jJ 4294967297), (jJ 8589934594), (jJ 12884901891), (jJ 17179869188), (jJ 0), (jJ 0), (jJ 0), (jJ 0), (jJ 0)]) :: (of', Own.ArrC Z .int [(.int f0), (.int f1), (.int f3), (.int f4), (.int f4), (iI 0), (iI 0), (iI 0)]) :: (ol, Own.ArrC Z .int [(iI 0), (iI 0), (iI 0), (iI 0), (iI 0), (iI 0), (iI 0), (iI 0)]) :: (ok, Own.ArrC Z .long [(jJ 0), (jJ 0), (jJ 0), (jJ 0)]) :: fr) := O204.pick 1 rfl
          have O206 : Own.Owns n0 h202 ((ok, Own.ArrC Z .long [(jJ 0), (jJ 0), (jJ 0), (jJ 0)]) :: (o0, WEo Z (.ref op) (.ref oc) (.ref of') (.ref ol) (.ref a3) (iI 0) (iI 4) (iI 0) (iI 0)) :: (oc, Own.ArrC Z .int [(iI 1), (iI 2), (iI 1), (iI 1), (iI 1), (iI 0), (iI 0), (iI 0)]) :: (a3, Own.ArrC Z .long [(jJ 0), (jJ 4294967297), (jJ 8589934594), (jJ 12884901891), (jJ 17179869188), (jJ 0), (jJ 0), (jJ 0), (jJ 0), (jJ 0)]) :: (of', Own.ArrC Z .int [(.int f0), (.int f1), (.int f3), (.int f4), (.int f4), (iI 0), (iI 0), (iI 0)]) :: (ol, Own.ArrC Z .int [(iI 0), (iI 0), (iI 0), (iI 0), (iI 0), (iI 0), (iI 0), (iI 0)]) :: fr) := O205.pick 5 rfl
          have O207 : Own.Owns n0 h202 ((ol, Own.ArrC Z .int [(iI 0), (iI 0), (iI 0), (iI 0), (iI 0), (iI 0), (iI 0), (iI 0)]) :: (ok, Own.ArrC Z .long [(jJ 0), (jJ 0), (jJ 0), (jJ 0)]) :: (o0, WEo Z (.ref op) (.ref oc) (.ref of') (.ref ol) (.ref a3) (iI 0) (iI 4) (iI 0) (iI 0)) :: (oc, Own.ArrC Z .int [(iI 1), (iI 2), (iI 1), (iI 1), (iI 1), (iI 0), (iI 0), (iI 0)]) :: (a3, Own.ArrC Z .long [(jJ 0), (jJ 4294967297), (jJ 8589934594), (jJ 12884901891), (jJ 17179869188), (jJ 0), (jJ 0), (jJ 0), (jJ 0), (jJ 0)]) :: (of', Own.ArrC Z .int [(.int f0), (.int f1), (.int f3), (.int f4), (.int f4), (iI 0), (iI 0), (iI 0)]) :: fr) := O206.pick 5 rfl
          have O208 : Own.Owns n0 h202 ((of', Own.ArrC Z .int [(.int f0), (.int f1), (.int f3), (.int f4), (.int f4), (iI 0), (iI 0), (iI 0)]) :: (ol, Own.ArrC Z .int [(iI 0), (iI 0), (iI 0), (iI 0), (iI 0), (iI 0), (iI 0), (iI 0)]) :: (ok, Own.ArrC Z .long [(jJ 0), (jJ 0), (jJ 0), (jJ 0)]) :: (o0, WEo Z (.ref op) (.ref oc) (.ref of') (.ref ol) (.ref a3) (iI 0) (iI 4) (iI 0) (iI 0)) :: (oc, Own.ArrC Z .int [(iI 1), (iI 2), (iI 1), (iI 1), (iI 1), (iI 0), (iI 0), (iI 0)]) :: (a3, Own.ArrC Z .long [(jJ 0), (jJ 4294967297), (jJ 8589934594), (jJ 12884901891), (jJ 17179869188), (jJ 0), (jJ 0), (jJ 0), (jJ 0), (jJ 0)]) :: fr) := O207.pick 5 rfl
          have O209 : Own.Owns n0 h202 ((a3, Own.ArrC Z .long [(jJ 0), (jJ 4294967297), (jJ 8589934594), (jJ 12884901891), (jJ 17179869188), (jJ 0), (jJ 0), (jJ 0), (jJ 0), (jJ 0)]) :: (of', Own.ArrC Z .int [(.int f0), (.int f1), (.int f3), (.int f4), (.int f4), (iI 0), (iI 0), (iI 0)]) :: (ol, Own.ArrC Z .int [(iI 0), (iI 0), (iI 0), (iI 0), (iI 0), (iI 0), (iI 0), (iI 0)]) :: (ok, Own.ArrC Z .long [(jJ 0), (jJ 0), (jJ 0), (jJ 0)]) :: (o0, WEo Z (.ref op) (.ref oc) (.ref of') (.ref ol) (.ref a3) (iI 0) (iI 4) (iI 0) (iI 0)) :: (oc, Own.ArrC Z .int [(iI 1), (iI 2), (iI 1), (iI 1), (iI 1), (iI 0), (iI 0), (iI 0)]) :: fr) := O208.pick 5 rfl
          exact Own.retV hx hret hlk (hb hby d11_208) (by decide) (by decide) ⟨[1, 2, 1, 1, 1, 0, 0, 0], (4 : Int32), a3, rfl, by rw [show dif f0 f1 = 1 from by rw [dif, if_neg hc30], show dif f1 f2 = 0 from by rw [dif, if_pos hc45], show dif f2 f3 = 1 from by rw [← hc45, dif, if_neg hc173], show dif f3 f4 = 1 from by rw [dif, if_neg hc188]]; decide +kernel, O209.tail.tail.tail.tail⟩
        · refine Own.aloadN hx (.ref o0) (hb hby d11_117) rfl rfl rfl ?_
          refine Own.getfield hx hZ hown O185 1 1 rfl rfl (hw _ (wm 36 rfl)) (hb hby d11_118) rfl ?_
          refine Own.iloadN hx (3 : Int32) (hb hby d11_121) rfl rfl ?_
          refine Own.iconst hx (1 : Int32) (hb hby d11_122) rfl (by decide) ?_
          refine Own.isub hx (hb hby d11_123) rfl ?_
          refine Own.vI (2 : Int32) (by decide) ?_
          refine Own.dup2 hx (hb hby d11_124) rfl rfl rfl ?_
          refine Own.iaload hx hZ O185 2 2 rfl (by decide) (v := (.int (1 : Int32))) rfl (hb hby d11_125) rfl ?_
          refine Own.iload hx (1 : Int32) (hb hby d11_126) rfl rfl ?_
          refine Own.iadd hx (hb hby d11_128) rfl ?_
          refine Own.vI (2 : Int32) (by decide) ?_
          refine Own.iastore hx hZ O185 2 2 rfl (by decide) (by exact (show 2 < 8 by decide)) ((a3, Own.ArrC Z .long [(jJ 0), (jJ 4294967297), (jJ 8589934594), (jJ 12884901891), (jJ 17179869188), (jJ 0), (jJ 0), (jJ 0), (jJ 0), (jJ 0)]) :: (o0, WEo Z (.ref op) (.ref oc) (.ref of') (.ref ol) (.ref a3) (iI 0) (iI 5) (iI 0) (iI 0)) :: (oc, Own.ArrC Z .int [(iI 1), (iI 2), (iI 2), (iI 1), (iI 1), (iI 0), (iI 0), (iI 0)]) :: (of', Own.ArrC Z .int [(.int f0), (.int f1), (.int f3), (.int f3), (.int f4), (iI 0), (iI 0), (iI 0)]) :: (ol, Own.ArrC Z .int [(iI 0), (iI 0), (iI 0), (iI 0), (iI 0), (iI 0), (iI 0), (iI 0)]) :: (ok, Own.ArrC Z .long [(jJ 0), (jJ 0), (jJ 0), (jJ 0)]) :: fr) rfl (hb hby d11_129) rfl ?_
          intro h210 O211
          refine Own.goto hx (hb hby d11_130) (by decide) (pc' := 165) rfl ?_
          refine Own.iload hx (4 : Int32) (hb hby d11_165) rfl rfl ?_
          refine Own.iload hx (1 : Int32) (hb hby d11_167) rfl rfl ?_
          refine Own.iadd hx (hb hby d11_169) rfl ?_
          refine Own.vI (5 : Int32) (by decide) ?_
          refine Own.istore hx (5 : Int32) rfl #[.val (.ref o0), .val (.int (0 : Int32)), .val (.int (5 : Int32)), .val (.int (3 : Int32)), .val (.int (5 : Int32)), .val (.int (0 : Int32)), .val (.int (4 : Int32)), .val (.int (1 : Int32)), .val (.int f4)] (hb hby d11_170) rfl rfl ?_
          refine Own.iinc hx (5 : Int32) #[.val (.ref o0), .val (.int (0 : Int32)), .val (.int (5 : Int32)), .val (.int (3 : Int32)), .val (.int (5 : Int32)), .val (.int (0 : Int32)), .val (.int (5 : Int32)), .val (.int (1 : Int32)), .val (.int f4)] (hb hby d11_172) rfl rfl (by decide) rfl ?_
          refine Own.goto hx (hb hby d11_175) (by decide) (pc' := 37) rfl ?_
          refine Own.iload hx (5 : Int32) (hb hby d11_37) rfl rfl ?_
          refine Own.aloadN hx (.ref o0) (hb hby d11_39) rfl rfl rfl ?_
          refine Own.getfield hx hZ hown O211 1 6 rfl rfl (hw _ (wm 55 rfl)) (hb hby d11_40) rfl ?_
          have hc212 : ¬ ((5 : Int32) < (5 : Int32)) := by decide
          refine Own.icmpFn hx (Own.q_ge (5 : Int32) (5 : Int32)) (hb hby d11_43) (pcN := 46) rfl (by decide) (pcT := 178) rfl (fun _ => ?_) (fun q => absurd q hc212)
          refine Own.iload hx (0 : Int32) (hb hby d11_178) rfl rfl ?_
          have hc214 : (0 : Int32) = (0 : Int32) := by decide
          refine Own.ifF hx (Own.z_eq (0 : Int32)) (hb hby d11_180) (pcN := 183) rfl (by decide) (pcT := 199) rfl (fun _ => ?_) (fun q => absurd hc214 q)
          refine Own.aloadN hx (.ref o0) (hb hby d11_199) rfl rfl rfl ?_
          refine Own.iloadN hx (3 : Int32) (hb hby d11_200) rfl rfl ?_
          refine Own.putfield hx hZ hown O211 1 6 rfl rfl (hw _ (wm 55 rfl)) (Or.inl (hw _ (wm 56 rfl))) (hw _ (wm 2 rfl)) (ty := .int) (by decide) rfl rfl ((a3, Own.ArrC Z .long [(jJ 0), (jJ 4294967297), (jJ 8589934594), (jJ 12884901891), (jJ 17179869188), (jJ 0), (jJ 0), (jJ 0), (jJ 0), (jJ 0)]) :: (o0, WEo Z (.ref op) (.ref oc) (.ref of') (.ref ol) (.ref a3) (iI 0) (iI 3) (iI 0) (iI 0)) :: (oc, Own.ArrC Z .int [(iI 1), (iI 2), (iI 2), (iI 1), (iI 1), (iI 0), (iI 0), (iI 0)]) :: (of', Own.ArrC Z .int [(.int f0), (.int f1), (.int f3), (.int f3), (.int f4), (iI 0), (iI 0), (iI 0)]) :: (ol, Own.ArrC Z .int [(iI 0), (iI 0), (iI 0), (iI 0), (iI 0), (iI 0), (iI 0), (iI 0)]) :: (ok, Own.ArrC Z .long [(jJ 0), (jJ 0), (jJ 0), (jJ 0)]) :: fr) rfl (hb hby d11_201) rfl ?_
          intro h216 O217
          refine Own.aloadN hx (.ref o0) (hb hby d11_204) rfl rfl rfl ?_
          have O218 : Own.Owns n0 h216 ((o0, WEo Z (.ref op) (.ref oc) (.ref of') (.ref ol) (.ref a3) (iI 0) (iI 3) (iI 0) (iI 0)) :: (a3, Own.ArrC Z .long [(jJ 0), (jJ 4294967297), (jJ 8589934594), (jJ 12884901891), (jJ 17179869188), (jJ 0), (jJ 0), (jJ 0), (jJ 0), (jJ 0)]) :: (oc, Own.ArrC Z .int [(iI 1), (iI 2), (iI 2), (iI 1), (iI 1), (iI 0), (iI 0), (iI 0)]) :: (of', Own.ArrC Z .int [(.int f0), (.int f1), (.int f3), (.int f3), (.int f4), (iI 0), (iI 0), (iI 0)]) :: (ol, Own.ArrC Z .int [(iI 0), (iI 0), (iI 0), (iI 0), (iI 0), (iI 0), (iI 0), (iI 0)]) :: (ok, Own.ArrC Z .long [(jJ 0), (jJ 0), (jJ 0), (jJ 0)]) :: fr) := O217.pick 1 rfl
          refine Own.callP hx hZ hown (O218.exa (i := 0) rfl) (hw _ (wm 90 rfl)) (hw _ (wm 91 rfl)) (hw _ (wm 2 rfl)) (hw _ (wm 92 rfl)) (hw _ (wm 3 rfl)) (hw _ (wm 93 rfl)) (by decide) pd0 (argsL := []) (rest := []) rfl (W := 0) (Nat.le_of_eq rfl) (rm := ({ frames := 0, cells := 0, slots := 0, locals := 0 } : Room)) (by decide) (by decide) (by decide) (by decide) (k' := 1) (n' := 10) rfl rfl (by rw [hml]; rfl) [(.ref o0)] rfl (hb hby d11_205) (pc' := 208) rfl (rm12 l Z a0 hw o0 h216 n0 op oc of' ol a3 (3 : Int32) (0 : Int32) (0 : Int32) ((a3, Own.ArrC Z .long [(jJ 0), (jJ 4294967297), (jJ 8589934594), (jJ 12884901891), (jJ 17179869188), (jJ 0), (jJ 0), (jJ 0), (jJ 0), (jJ 0)]) :: (oc, Own.ArrC Z .int [(iI 1), (iI 2), (iI 2), (iI 1), (iI 1), (iI 0), (iI 0), (iI 0)]) :: (of', Own.ArrC Z .int [(.int f0), (.int f1), (.int f3), (.int f3), (.int f4), (iI 0), (iI 0), (iI 0)]) :: (ol, Own.ArrC Z .int [(iI 0), (iI 0), (iI 0), (iI 0), (iI 0), (iI 0), (iI 0), (iI 0)]) :: (ok, Own.ArrC Z .long [(jJ 0), (jJ 0), (jJ 0), (jJ 0)]) :: fr) O218) ?_
          rintro _ h219 ⟨rfl, O220⟩
          show Own.Goes _ _ _ _ _ _ _ _ _ _ _ _ _ _ _ _ _ (mkF m 208 #[.val (.ref o0), .val (.int (0 : Int32)), .val (.int (5 : Int32)), .val (.int (3 : Int32)), .val (.int (5 : Int32)), .val (.int (0 : Int32)), .val (.int (5 : Int32)), .val (.int (1 : Int32)), .val (.int f4)] [])
          have O221 : Own.Owns n0 h219 ((oc, Own.ArrC Z .int [(iI 1), (iI 2), (iI 2), (iI 1), (iI 1), (iI 0), (iI 0), (iI 0)]) :: (o0, WEo Z (.ref op) (.ref oc) (.ref of') (.ref ol) (.ref a3) (iI 0) (iI 3) (iI 0) (iI 0)) :: (a3, Own.ArrC Z .long [(jJ 0), (jJ 4294967297), (jJ 8589934594), (jJ 12884901891), (jJ 17179869188), (jJ 0), (jJ 0), (jJ 0), (jJ 0), (jJ 0)]) :: (of', Own.ArrC Z .int [(.int f0), (.int f1), (.int f3), (.int f3), (.int f4), (iI 0), (iI 0), (iI 0)]) :: (ol, Own.ArrC Z .int [(iI 0), (iI 0), (iI 0), (iI 0), (iI 0), (iI 0), (iI 0), (iI 0)]) :: (ok, Own.ArrC Z .long [(jJ 0), (jJ 0), (jJ 0), (jJ 0)]) :: fr) := O220.pick 2 rfl
          have O222 : Own.Owns n0 h219 ((o0, WEo Z (.ref op) (.ref oc) (.ref of') (.ref ol) (.ref a3) (iI 0) (iI 3) (iI 0) (iI 0)) :: (oc, Own.ArrC Z .int [(iI 1), (iI 2), (iI 2), (iI 1), (iI 1), (iI 0), (iI 0), (iI 0)]) :: (a3, Own.ArrC Z .long [(jJ 0), (jJ 4294967297), (jJ 8589934594), (jJ 12884901891), (jJ 17179869188), (jJ 0), (jJ 0), (jJ 0), (jJ 0), (jJ 0)]) :: (of', Own.ArrC Z .int [(.int f0), (.int f1), (.int f3), (.int f3), (.int f4), (iI 0), (iI 0), (iI 0)]) :: (ol, Own.ArrC Z .int [(iI 0), (iI 0), (iI 0), (iI 0), (iI 0), (iI 0), (iI 0), (iI 0)]) :: (ok, Own.ArrC Z .long [(jJ 0), (jJ 0), (jJ 0), (jJ 0)]) :: fr) := O221.pick 1 rfl
          have O223 : Own.Owns n0 h219 ((ok, Own.ArrC Z .long [(jJ 0), (jJ 0), (jJ 0), (jJ 0)]) :: (o0, WEo Z (.ref op) (.ref oc) (.ref of') (.ref ol) (.ref a3) (iI 0) (iI 3) (iI 0) (iI 0)) :: (oc, Own.ArrC Z .int [(iI 1), (iI 2), (iI 2), (iI 1), (iI 1), (iI 0), (iI 0), (iI 0)]) :: (a3, Own.ArrC Z .long [(jJ 0), (jJ 4294967297), (jJ 8589934594), (jJ 12884901891), (jJ 17179869188), (jJ 0), (jJ 0), (jJ 0), (jJ 0), (jJ 0)]) :: (of', Own.ArrC Z .int [(.int f0), (.int f1), (.int f3), (.int f3), (.int f4), (iI 0), (iI 0), (iI 0)]) :: (ol, Own.ArrC Z .int [(iI 0), (iI 0), (iI 0), (iI 0), (iI 0), (iI 0), (iI 0), (iI 0)]) :: fr) := O222.pick 5 rfl
          have O224 : Own.Owns n0 h219 ((ol, Own.ArrC Z .int [(iI 0), (iI 0), (iI 0), (iI 0), (iI 0), (iI 0), (iI 0), (iI 0)]) :: (ok, Own.ArrC Z .long [(jJ 0), (jJ 0), (jJ 0), (jJ 0)]) :: (o0, WEo Z (.ref op) (.ref oc) (.ref of') (.ref ol) (.ref a3) (iI 0) (iI 3) (iI 0) (iI 0)) :: (oc, Own.ArrC Z .int [(iI 1), (iI 2), (iI 2), (iI 1), (iI 1), (iI 0), (iI 0), (iI 0)]) :: (a3, Own.ArrC Z .long [(jJ 0), (jJ 4294967297), (jJ 8589934594), (jJ 12884901891), (jJ 17179869188), (jJ 0), (jJ 0), (jJ 0), (jJ 0), (jJ 0)]) :: (of', Own.ArrC Z .int [(.int f0), (.int f1), (.int f3), (.int f3), (.int f4), (iI 0), (iI 0), (iI 0)]) :: fr) := O223.pick 5 rfl
          have O225 : Own.Owns n0 h219 ((of', Own.ArrC Z .int [(.int f0), (.int f1), (.int f3), (.int f3), (.int f4), (iI 0), (iI 0), (iI 0)]) :: (ol, Own.ArrC Z .int [(iI 0), (iI 0), (iI 0), (iI 0), (iI 0), (iI 0), (iI 0), (iI 0)]) :: (ok, Own.ArrC Z .long [(jJ 0), (jJ 0), (jJ 0), (jJ 0)]) :: (o0, WEo Z (.ref op) (.ref oc) (.ref of') (.ref ol) (.ref a3) (iI 0) (iI 3) (iI 0) (iI 0)) :: (oc, Own.ArrC Z .int [(iI 1), (iI 2), (iI 2), (iI 1), (iI 1), (iI 0), (iI 0), (iI 0)]) :: (a3, Own.ArrC Z .long [(jJ 0), (jJ 4294967297), (jJ 8589934594), (jJ 12884901891), (jJ 17179869188), (jJ 0), (jJ 0), (jJ 0), (jJ 0), (jJ 0)]) :: fr) := O224.pick 5 rfl
          have O226 : Own.Owns n0 h219 ((a3, Own.ArrC Z .long [(jJ 0), (jJ 4294967297), (jJ 8589934594), (jJ 12884901891), (jJ 17179869188), (jJ 0), (jJ 0), (jJ 0), (jJ 0), (jJ 0)]) :: (of', Own.ArrC Z .int [(.int f0), (.int f1), (.int f3), (.int f3), (.int f4), (iI 0), (iI 0), (iI 0)]) :: (ol, Own.ArrC Z .int [(iI 0), (iI 0), (iI 0), (iI 0), (iI 0), (iI 0), (iI 0), (iI 0)]) :: (ok, Own.ArrC Z .long [(jJ 0), (jJ 0), (jJ 0), (jJ 0)]) :: (o0, WEo Z (.ref op) (.ref oc) (.ref of') (.ref ol) (.ref a3) (iI 0) (iI 3) (iI 0) (iI 0)) :: (oc, Own.ArrC Z .int [(iI 1), (iI 2), (iI 2), (iI 1), (iI 1), (iI 0), (iI 0), (iI 0)]) :: fr) := O225.pick 5 rfl
          exact Own.retV hx hret hlk (hb hby d11_208) (by decide) (by decide) ⟨[1, 2, 2, 1, 1, 0, 0, 0], (3 : Int32), a3, rfl, by rw [show dif f0 f1 = 1 from by rw [dif, if_neg hc30], show dif f1 f2 = 0 from by rw [dif, if_pos hc45], show dif f2 f3 = 1 from by rw [← hc45, dif, if_neg hc173], show dif f3 f4 = 0 from by rw [dif, if_pos hc188]]; decide +kernel, O226.tail.tail.tail.tail⟩
      · refine Own.aloadN hx (.ref o0) (hb hby d11_117) rfl rfl rfl ?_
        refine Own.getfield hx hZ hown O170 1 1 rfl rfl (hw _ (wm 36 rfl)) (hb hby d11_118) rfl ?_
        refine Own.iloadN hx (2 : Int32) (hb hby d11_121) rfl rfl ?_
        refine Own.iconst hx (1 : Int32) (hb hby d11_122) rfl (by decide) ?_
        refine Own.isub hx (hb hby d11_123) rfl ?_
        refine Own.vI (1 : Int32) (by decide) ?_
        refine Own.dup2 hx (hb hby d11_124) rfl rfl rfl ?_
        refine Own.iaload hx hZ O170 2 1 rfl (by decide) (v := (.int (2 : Int32))) rfl (hb hby d11_125) rfl ?_
        refine Own.iload hx (1 : Int32) (hb hby d11_126) rfl rfl ?_
        refine Own.iadd hx (hb hby d11_128) rfl ?_
        refine Own.vI (3 : Int32) (by decide) ?_
        refine Own.iastore hx hZ O170 2 1 rfl (by decide) (by exact (show 1 < 8 by decide)) ((a3, Own.ArrC Z .long [(jJ 0), (jJ 4294967297), (jJ 8589934594), (jJ 12884901891), (jJ 0), (jJ 0), (jJ 0), (jJ 0), (jJ 0), (jJ 0)]) :: (o0, WEo Z (.ref op) (.ref oc) (.ref of') (.ref ol) (.ref a3) (iI 0) (iI 5) (iI 0) (iI 0)) :: (oc, Own.ArrC Z .int [(iI 1), (iI 3), (iI 1), (iI 1), (iI 1), (iI 0), (iI 0), (iI 0)]) :: (of', Own.ArrC Z .int [(.int f0), (.int f1), (.int f2), (.int f3), (.int f4), (iI 0), (iI 0), (iI 0)]) :: (ol, Own.ArrC Z .int [(iI 0), (iI 0), (iI 0), (iI 0), (iI 0), (iI 0), (iI 0), (iI 0)]) :: (ok, Own.ArrC Z .long [(jJ 0), (jJ 0), (jJ 0), (jJ 0)]) :: fr) rfl (hb hby d11_129) rfl ?_
        intro h227 O228
        refine Own.goto hx (hb hby d11_130) (by decide) (pc' := 165) rfl ?_
        refine Own.iload hx (3 : Int32) (hb hby d11_165) rfl rfl ?_
        refine Own.iload hx (1 : Int32) (hb hby d11_167) rfl rfl ?_
        refine Own.iadd hx (hb hby d11_169) rfl ?_
        refine Own.vI (4 : Int32) (by decide) ?_
        refine Own.istore hx (4 : Int32) rfl #[.val (.ref o0), .val (.int (0 : Int32)), .val (.int (4 : Int32)), .val (.int (2 : Int32)), .val (.int (4 : Int32)), .val (.int (0 : Int32)), .val (.int (3 : Int32)), .val (.int (1 : Int32)), .val (.int f3)] (hb hby d11_170) rfl rfl ?_
        refine Own.iinc hx (4 : Int32) #[.val (.ref o0), .val (.int (0 : Int32)), .val (.int (4 : Int32)), .val (.int (2 : Int32)), .val (.int (4 : Int32)), .val (.int (0 : Int32)), .val (.int (4 : Int32)), .val (.int (1 : Int32)), .val (.int f3)] (hb hby d11_172) rfl rfl (by decide) rfl ?_
        refine Own.goto hx (hb hby d11_175) (by decide) (pc' := 37) rfl ?_
        refine Own.iload hx (4 : Int32) (hb hby d11_37) rfl rfl ?_
        refine Own.aloadN hx (.ref o0) (hb hby d11_39) rfl rfl rfl ?_
        refine Own.getfield hx hZ hown O228 1 6 rfl rfl (hw _ (wm 55 rfl)) (hb hby d11_40) rfl ?_
        have hc229 : (4 : Int32) < (5 : Int32) := by decide
        refine Own.icmpFn hx (Own.q_ge (4 : Int32) (5 : Int32)) (hb hby d11_43) (pcN := 46) rfl (by decide) (pcT := 178) rfl (fun q => absurd hc229 q) (fun _ => ?_)
        refine Own.aloadN hx (.ref o0) (hb hby d11_46) rfl rfl rfl ?_
        refine Own.getfield hx hZ hown O228 1 1 rfl rfl (hw _ (wm 36 rfl)) (hb hby d11_47) rfl ?_
        refine Own.iload hx (4 : Int32) (hb hby d11_50) rfl rfl ?_
        refine Own.iaload hx hZ O228 2 4 rfl (by decide) (v := (.int (1 : Int32))) rfl (hb hby d11_52) rfl ?_
        refine Own.istore hx (1 : Int32) rfl #[.val (.ref o0), .val (.int (0 : Int32)), .val (.int (4 : Int32)), .val (.int (2 : Int32)), .val (.int (4 : Int32)), .val (.int (0 : Int32)), .val (.int (4 : Int32)), .val (.int (1 : Int32)), .val (.int f3)] (hb hby d11_53) rfl rfl ?_
        refine Own.aloadN hx (.ref o0) (hb hby d11_55) rfl rfl rfl ?_
        refine Own.getfield hx hZ hown O228 1 2 rfl rfl (hw _ (wm 38 rfl)) (hb hby d11_56) rfl ?_
        refine Own.iload hx (4 : Int32) (hb hby d11_59) rfl rfl ?_
        refine Own.iaload hx hZ O228 3 4 rfl (by decide) (v := (.int f4)) rfl (hb hby d11_61) rfl ?_
        refine Own.istore hx f4 rfl #[.val (.ref o0), .val (.int (0 : Int32)), .val (.int (4 : Int32)), .val (.int (2 : Int32)), .val (.int (4 : Int32)), .val (.int (0 : Int32)), .val (.int (4 : Int32)), .val (.int (1 : Int32)), .val (.int f4)] (hb hby d11_62) rfl rfl ?_
        refine Own.iload hx f4 (hb hby d11_64) rfl rfl ?_
        refine Own.iloadN hx (0 : Int32) (hb hby d11_66) rfl rfl ?_
        have hc231 : ¬ (f4 = (0 : Int32)) := hz4
        refine Own.icmpFn hx (Own.q_ne f4 (0 : Int32)) (hb hby d11_67) (pcN := 70) rfl (by decide) (pcT := 76) rfl (fun _ => ?_) (fun q => absurd q hc231)
        refine Own.aloadN hx (.ref o0) (hb hby d11_76) rfl rfl rfl ?_
        refine Own.getfield hx hZ hown O228 1 4 rfl rfl (hw _ (wm 42 rfl)) (hb hby d11_77) rfl ?_
        refine Own.iloadN hx (4 : Int32) (hb hby d11_80) rfl rfl ?_
        refine Own.iinc hx (5 : Int32) #[.val (.ref o0), .val (.int (0 : Int32)), .val (.int (5 : Int32)), .val (.int (2 : Int32)), .val (.int (4 : Int32)), .val (.int (0 : Int32)), .val (.int (4 : Int32)), .val (.int (1 : Int32)), .val (.int f4)] (hb hby d11_81) rfl rfl (by decide) rfl ?_
        refine Own.iload hx (4 : Int32) (hb hby d11_84) rfl rfl ?_
        refine Own.i2l hx (hb hby d11_86) rfl ?_
        refine Own.vL (4 : Int64) (by decide) ?_
        refine Own.bipush hx (32 : Int32) (hb hby d11_87) rfl (by decide) ?_
        refine Own.lshl hx (hb hby d11_89) rfl ?_
        refine Own.vL (17179869184 : Int64) (by decide) ?_
        refine Own.iload hx (4 : Int32) (hb hby d11_90) rfl rfl ?_
        refine Own.iload hx (1 : Int32) (hb hby d11_92) rfl rfl ?_
        refine Own.iadd hx (hb hby d11_94) rfl ?_
        refine Own.vI (5 : Int32) (by decide) ?_
        refine Own.iconst hx (1 : Int32) (hb hby d11_95) rfl (by decide) ?_
        refine Own.isub hx (hb hby d11_96) rfl ?_
        refine Own.vI (4 : Int32) (by decide) ?_
        refine Own.i2l hx (hb hby d11_97) rfl ?_
        refine Own.vL (4 : Int64) (by decide) ?_
        refine Own.lor hx (hb hby d11_98) rfl ?_
        refine Own.vL (17179869188 : Int64) (by decide) ?_
        refine Own.lastore hx hZ O228 0 4 rfl (by decide) (by exact (show 4 < 10 by decide)) ((a3, Own.ArrC Z .long [(jJ 0), (jJ 4294967297), (jJ 8589934594), (jJ 12884901891), (jJ 17179869188), (jJ 0), (jJ 0), (jJ 0), (jJ 0), (jJ 0)]) :: (o0, WEo Z (.ref op) (.ref oc) (.ref of') (.ref ol) (.ref a3) (iI 0) (iI 5) (iI 0) (iI 0)) :: (oc, Own.ArrC Z .int [(iI 1), (iI 3), (iI 1), (iI 1), (iI 1), (iI 0), (iI 0), (iI 0)]) :: (of', Own.ArrC Z .int [(.int f0), (.int f1), (.int f2), (.int f3), (.int f4), (iI 0), (iI 0), (iI 0)]) :: (ol, Own.ArrC Z .int [(iI 0), (iI 0), (iI 0), (iI 0), (iI 0), (iI 0), (iI 0), (iI 0)]) :: (ok, Own.ArrC Z .long [(jJ 0), (jJ 0), (jJ 0), (jJ 0)]) :: fr) rfl (hb hby d11_99) rfl ?_
        intro h233 O234
        refine Own.iloadN hx (2 : Int32) (hb hby d11_100) rfl rfl ?_
        have hc235 : (0 : Int32) < (2 : Int32) := by decide
        refine Own.ifFn hx (Own.z_le (2 : Int32)) (hb hby d11_101) (pcN := 104) rfl (by decide) (pcT := 133) rfl (fun q => absurd hc235 q) (fun _ => ?_)
        refine Own.aloadN hx (.ref o0) (hb hby d11_104) rfl rfl rfl ?_
        refine Own.getfield hx hZ hown O234 1 2 rfl rfl (hw _ (wm 38 rfl)) (hb hby d11_105) rfl ?_
        refine Own.iloadN hx (2 : Int32) (hb hby d11_108) rfl rfl ?_
        refine Own.iconst hx (1 : Int32) (hb hby d11_109) rfl (by decide) ?_
        refine Own.isub hx (hb hby d11_110) rfl ?_
        refine Own.vI (1 : Int32) (by decide) ?_
        refine Own.iaload hx hZ O234 3 1 rfl (by decide) (v := (.int f1)) rfl (hb hby d11_111) rfl ?_
        refine Own.iload hx f4 (hb hby d11_112) rfl rfl ?_
        refine Own.icmpFn hx (Own.q_ne f1 f4) (hb hby d11_114) (pcN := 117) rfl (by decide) (pcT := 133) rfl (fun hc237 => ?_) (fun hc237 => ?_)
        · refine Own.aloadN hx (.ref o0) (hb hby d11_133) rfl rfl rfl ?_
          refine Own.getfield hx hZ hown O234 1 1 rfl rfl (hw _ (wm 36 rfl)) (hb hby d11_134) rfl ?_
          refine Own.iloadN hx (2 : Int32) (hb hby d11_137) rfl rfl ?_
          refine Own.iload hx (1 : Int32) (hb hby d11_138) rfl rfl ?_
          refine Own.iastore hx hZ O234 2 2 rfl (by decide) (by exact (show 2 < 8 by decide)) ((a3, Own.ArrC Z .long [(jJ 0), (jJ 4294967297), (jJ 8589934594), (jJ 12884901891), (jJ 17179869188), (jJ 0), (jJ 0), (jJ 0), (jJ 0), (jJ 0)]) :: (o0, WEo Z (.ref op) (.ref oc) (.ref of') (.ref ol) (.ref a3) (iI 0) (iI 5) (iI 0) (iI 0)) :: (oc, Own.ArrC Z .int [(iI 1), (iI 3), (iI 1), (iI 1), (iI 1), (iI 0), (iI 0), (iI 0)]) :: (of', Own.ArrC Z .int [(.int f0), (.int f1), (.int f2), (.int f3), (.int f4), (iI 0), (iI 0), (iI 0)]) :: (ol, Own.ArrC Z .int [(iI 0), (iI 0), (iI 0), (iI 0), (iI 0), (iI 0), (iI 0), (iI 0)]) :: (ok, Own.ArrC Z .long [(jJ 0), (jJ 0), (jJ 0), (jJ 0)]) :: fr) rfl (hb hby d11_140) rfl ?_
          intro h238 O239
          refine Own.aloadN hx (.ref o0) (hb hby d11_141) rfl rfl rfl ?_
          refine Own.getfield hx hZ hown O239 1 2 rfl rfl (hw _ (wm 38 rfl)) (hb hby d11_142) rfl ?_
          refine Own.iloadN hx (2 : Int32) (hb hby d11_145) rfl rfl ?_
          refine Own.iload hx f4 (hb hby d11_146) rfl rfl ?_
          refine Own.iastore hx hZ O239 3 2 rfl (by decide) (by exact (show 2 < 8 by decide)) ((a3, Own.ArrC Z .long [(jJ 0), (jJ 4294967297), (jJ 8589934594), (jJ 12884901891), (jJ 17179869188), (jJ 0), (jJ 0), (jJ 0), (jJ 0), (jJ 0)]) :: (o0, WEo Z (.ref op) (.ref oc) (.ref of') (.ref ol) (.ref a3) (iI 0) (iI 5) (iI 0) (iI 0)) :: (oc, Own.ArrC Z .int [(iI 1), (iI 3), (iI 1), (iI 1), (iI 1), (iI 0), (iI 0), (iI 0)]) :: (of', Own.ArrC Z .int [(.int f0), (.int f1), (.int f4), (.int f3), (.int f4), (iI 0), (iI 0), (iI 0)]) :: (ol, Own.ArrC Z .int [(iI 0), (iI 0), (iI 0), (iI 0), (iI 0), (iI 0), (iI 0), (iI 0)]) :: (ok, Own.ArrC Z .long [(jJ 0), (jJ 0), (jJ 0), (jJ 0)]) :: fr) rfl (hb hby d11_148) rfl ?_
          intro h240 O241
          refine Own.aloadN hx (.ref o0) (hb hby d11_149) rfl rfl rfl ?_
          refine Own.getfield hx hZ hown O241 1 3 rfl rfl (hw _ (wm 40 rfl)) (hb hby d11_150) rfl ?_
          refine Own.iloadN hx (2 : Int32) (hb hby d11_153) rfl rfl ?_
          refine Own.iinc hx (3 : Int32) #[.val (.ref o0), .val (.int (0 : Int32)), .val (.int (5 : Int32)), .val (.int (3 : Int32)), .val (.int (4 : Int32)), .val (.int (0 : Int32)), .val (.int (4 : Int32)), .val (.int (1 : Int32)), .val (.int f4)] (hb hby d11_154) rfl rfl (by decide) rfl ?_
          refine Own.aloadN hx (.ref o0) (hb hby d11_157) rfl rfl rfl ?_
          refine Own.getfield hx hZ hown O241 1 3 rfl rfl (hw _ (wm 40 rfl)) (hb hby d11_158) rfl ?_
          refine Own.iload hx (4 : Int32) (hb hby d11_161) rfl rfl ?_
          refine Own.iaload hx hZ O241 4 4 rfl (by decide) (v := (.int (0 : Int32))) rfl (hb hby d11_163) rfl ?_
          refine Own.iastore hx hZ O241 4 2 rfl (by decide) (by exact (show 2 < 8 by decide)) ((a3, Own.ArrC Z .long [(jJ 0), (jJ 4294967297), (jJ 8589934594), (jJ 12884901891), (jJ 17179869188), (jJ 0), (jJ 0), (jJ 0), (jJ 0), (jJ 0)]) :: (o0, WEo Z (.ref op) (.ref oc) (.ref of') (.ref ol) (.ref a3) (iI 0) (iI 5) (iI 0) (iI 0)) :: (oc, Own.ArrC Z .int [(iI 1), (iI 3), (iI 1), (iI 1), (iI 1), (iI 0), (iI 0), (iI 0)]) :: (of', Own.ArrC Z .int [(.int f0), (.int f1), (.int f4), (.int f3), (.int f4), (iI 0), (iI 0), (iI 0)]) :: (ol, Own.ArrC Z .int [(iI 0), (iI 0), (iI 0), (iI 0), (iI 0), (iI 0), (iI 0), (iI 0)]) :: (ok, Own.ArrC Z .long [(jJ 0), (jJ 0), (jJ 0), (jJ 0)]) :: fr) rfl (hb hby d11_164) rfl ?_
          intro h242 O243
          refine Own.iload hx (4 : Int32) (hb hby d11_165) rfl rfl ?_
          refine Own.iload hx (1 : Int32) (hb hby d11_167) rfl rfl ?_
          refine Own.iadd hx (hb hby d11_169) rfl ?_
          refine Own.vI (5 : Int32) (by decide) ?_
          refine Own.istore hx (5 : Int32) rfl #[.val (.ref o0), .val (.int (0 : Int32)), .val (.int (5 : Int32)), .val (.int (3 : Int32)), .val (.int (5 : Int32)), .val (.int (0 : Int32)), .val (.int (4 : Int32)), .val (.int (1 : Int32)), .val (.int f4)] (hb hby d11_170) rfl rfl ?_
          refine Own.iinc hx (5 : Int32) #[.val (.ref o0), .val (.int (0 : Int32)), .val (.int (5 : Int32)), .val (.int (3 : Int32)), .val (.int (5 : Int32)), .val (.int (0 : Int32)), .val (.int (5 : Int32)), .val (.int (1 : Int32)), .val (.int f4)] (hb hby d11_172) rfl rfl (by decide) rfl ?_
          refine Own.goto hx (hb hby d11_175) (by decide) (pc' := 37) rfl ?_
          refine Own.iload hx (5 : Int32) (hb hby d11_37) rfl rfl ?_
          refine Own.aloadN hx (.ref o0) (hb hby d11_39) rfl rfl rfl ?_
          refine Own.getfield hx hZ hown O243 1 6 rfl rfl (hw _ (wm 55 rfl)) (hb hby d11_40) rfl ?_
          have hc244 : ¬ ((5 : Int32) < (5 : Int32)) := by decide
          refine Own.icmpFn hx (Own.q_ge (5 : Int32) (5 : Int32)) (hb hby d11_43) (pcN := 46) rfl (by decide) (pcT := 178) rfl (fun _ => ?_) (fun q => absurd q hc244)
          refine Own.iload hx (0 : Int32) (hb hby d11_178) rfl rfl ?_
          have hc246 : (0 : Int32) = (0 : Int32) := by decide
          refine Own.ifF hx (Own.z_eq (0 : Int32)) (hb hby d11_180) (pcN := 183) rfl (by decide) (pcT := 199) rfl (fun _ => ?_) (fun q => absurd hc246 q)
          refine Own.aloadN hx (.ref o0) (hb hby d11_199) rfl rfl rfl ?_
          refine Own.iloadN hx (3 : Int32) (hb hby d11_200) rfl rfl ?_
          refine Own.putfield hx hZ hown O243 1 6 rfl rfl (hw _ (wm 55 rfl)) (Or.inl (hw _ (wm 56 rfl))) (hw _ (wm 2 rfl)) (ty := .int) (by decide) rfl rfl ((a3, Own.ArrC Z .long [(jJ 0), (jJ 4294967297), (jJ 8589934594), (jJ 12884901891), (jJ 17179869188), (jJ 0), (jJ 0), (jJ 0), (jJ 0), (jJ 0)]) :: (o0, WEo Z (.ref op) (.ref oc) (.ref of') (.ref ol) (.ref a3) (iI 0) (iI 3) (iI 0) (iI 0)) :: (oc, Own.ArrC Z .int [(iI 1), (iI 3), (iI 1), (iI 1), (iI 1), (iI 0), (iI 0), (iI 0)]) :: (of', Own.ArrC Z .int [(.int f0), (.int f1), (.int f4), (.int f3), (.int f4), (iI 0), (iI 0), (iI 0)]) :: (ol, Own.ArrC Z .int [(iI 0), (iI 0), (iI 0), (iI 0), (iI 0), (iI 0), (iI 0), (iI 0)]) :: (ok, Own.ArrC Z .long [(jJ 0), (jJ 0), (jJ 0), (jJ 0)]) :: fr) rfl (hb hby d11_201) rfl ?_
          intro h248 O249
          refine Own.aloadN hx (.ref o0) (hb hby d11_204) rfl rfl rfl ?_
          have O250 : Own.Owns n0 h248 ((o0, WEo Z (.ref op) (.ref oc) (.ref of') (.ref ol) (.ref a3) (iI 0) (iI 3) (iI 0) (iI 0)) :: (a3, Own.ArrC Z .long [(jJ 0), (jJ 4294967297), (jJ 8589934594), (jJ 12884901891), (jJ 17179869188), (jJ 0), (jJ 0), (jJ 0), (jJ 0), (jJ 0)]) :: (oc, Own.ArrC Z .int [(iI 1), (iI 3), (iI 1), (iI 1), (iI 1), (iI 0), (iI 0), (iI 0)]) :: (of', Own.ArrC Z .int [(.int f0), (.int f1), (.int f4), (.int f3), (.int f4), (iI 0), (iI 0), (iI 0)]) :: (ol, Own.ArrC Z .int [(iI 0), (iI 0), (iI 0), (iI 0), (iI 0), (iI 0), (iI 0), (iI 0)]) :: (ok, Own.ArrC Z .long [(jJ 0), (jJ 0), (jJ 0), (jJ 0)]) :: fr) := O249.pick 1 rfl
          refine Own.callP hx hZ hown (O250.exa (i := 0) rfl) (hw _ (wm 90 rfl)) (hw _ (wm 91 rfl)) (hw _ (wm 2 rfl)) (hw _ (wm 92 rfl)) (hw _ (wm 3 rfl)) (hw _ (wm 93 rfl)) (by decide) pd0 (argsL := []) (rest := []) rfl (W := 0) (Nat.le_of_eq rfl) (rm := ({ frames := 0, cells := 0, slots := 0, locals := 0 } : Room)) (by decide) (by decide) (by decide) (by decide) (k' := 1) (n' := 10) rfl rfl (by rw [hml]; rfl) [(.ref o0)] rfl (hb hby d11_205) (pc' := 208) rfl (rm12 l Z a0 hw o0 h248 n0 op oc of' ol a3 (3 : Int32) (0 : Int32) (0 : Int32) ((a3, Own.ArrC Z .long [(jJ 0), (jJ 4294967297), (jJ 8589934594), (jJ 12884901891), (jJ 17179869188), (jJ 0), (jJ 0), (jJ 0), (jJ 0), (jJ 0)]) :: (oc, Own.ArrC Z .int [(iI 1), (iI 3), (iI 1), (iI 1), (iI 1), (iI 0), (iI 0), (iI 0)]) :: (of', Own.ArrC Z .int [(.int f0), (.int f1), (.int f4), (.int f3), (.int f4), (iI 0), (iI 0), (iI 0)]) :: (ol, Own.ArrC Z .int [(iI 0), (iI 0), (iI 0), (iI 0), (iI 0), (iI 0), (iI 0), (iI 0)]) :: (ok, Own.ArrC Z .long [(jJ 0), (jJ 0), (jJ 0), (jJ 0)]) :: fr) O250) ?_
          rintro _ h251 ⟨rfl, O252⟩
          show Own.Goes _ _ _ _ _ _ _ _ _ _ _ _ _ _ _ _ _ (mkF m 208 #[.val (.ref o0), .val (.int (0 : Int32)), .val (.int (5 : Int32)), .val (.int (3 : Int32)), .val (.int (5 : Int32)), .val (.int (0 : Int32)), .val (.int (5 : Int32)), .val (.int (1 : Int32)), .val (.int f4)] [])
          have O253 : Own.Owns n0 h251 ((oc, Own.ArrC Z .int [(iI 1), (iI 3), (iI 1), (iI 1), (iI 1), (iI 0), (iI 0), (iI 0)]) :: (o0, WEo Z (.ref op) (.ref oc) (.ref of') (.ref ol) (.ref a3) (iI 0) (iI 3) (iI 0) (iI 0)) :: (a3, Own.ArrC Z .long [(jJ 0), (jJ 4294967297), (jJ 8589934594), (jJ 12884901891), (jJ 17179869188), (jJ 0), (jJ 0), (jJ 0), (jJ 0), (jJ 0)]) :: (of', Own.ArrC Z .int [(.int f0), (.int f1), (.int f4), (.int f3), (.int f4), (iI 0), (iI 0), (iI 0)]) :: (ol, Own.ArrC Z .int [(iI 0), (iI 0), (iI 0), (iI 0), (iI 0), (iI 0), (iI 0), (iI 0)]) :: (ok, Own.ArrC Z .long [(jJ 0), (jJ 0), (jJ 0), (jJ 0)]) :: fr) := O252.pick 2 rfl
          have O254 : Own.Owns n0 h251 ((o0, WEo Z (.ref op) (.ref oc) (.ref of') (.ref ol) (.ref a3) (iI 0) (iI 3) (iI 0) (iI 0)) :: (oc, Own.ArrC Z .int [(iI 1), (iI 3), (iI 1), (iI 1), (iI 1), (iI 0), (iI 0), (iI 0)]) :: (a3, Own.ArrC Z .long [(jJ 0), (jJ 4294967297), (jJ 8589934594), (jJ 12884901891), (jJ 17179869188), (jJ 0), (jJ 0), (jJ 0), (jJ 0), (jJ 0)]) :: (of', Own.ArrC Z .int [(.int f0), (.int f1), (.int f4), (.int f3), (.int f4), (iI 0), (iI 0), (iI 0)]) :: (ol, Own.ArrC Z .int [(iI 0), (iI 0), (iI 0), (iI 0), (iI 0), (iI 0), (iI 0), (iI 0)]) :: (ok, Own.ArrC Z .long [(jJ 0), (jJ 0), (jJ 0), (jJ 0)]) :: fr) := O253.pick 1 rfl
          have O255 : Own.Owns n0 h251 ((ok, Own.ArrC Z .long [(jJ 0), (jJ 0), (jJ 0), (jJ 0)]) :: (o0, WEo Z (.ref op) (.ref oc) (.ref of') (.ref ol) (.ref a3) (iI 0) (iI 3) (iI 0) (iI 0)) :: (oc, Own.ArrC Z .int [(iI 1), (iI 3), (iI 1), (iI 1), (iI 1), (iI 0), (iI 0), (iI 0)]) :: (a3, Own.ArrC Z .long [(jJ 0), (jJ 4294967297), (jJ 8589934594), (jJ 12884901891), (jJ 17179869188), (jJ 0), (jJ 0), (jJ 0), (jJ 0), (jJ 0)]) :: (of', Own.ArrC Z .int [(.int f0), (.int f1), (.int f4), (.int f3), (.int f4), (iI 0), (iI 0), (iI 0)]) :: (ol, Own.ArrC Z .int [(iI 0), (iI 0), (iI 0), (iI 0), (iI 0), (iI 0), (iI 0), (iI 0)]) :: fr) := O254.pick 5 rfl
          have O256 : Own.Owns n0 h251 ((ol, Own.ArrC Z .int [(iI 0), (iI 0), (iI 0), (iI 0), (iI 0), (iI 0), (iI 0), (iI 0)]) :: (ok, Own.ArrC Z .long [(jJ 0), (jJ 0), (jJ 0), (jJ 0)]) :: (o0, WEo Z (.ref op) (.ref oc) (.ref of') (.ref ol) (.ref a3) (iI 0) (iI 3) (iI 0) (iI 0)) :: (oc, Own.ArrC Z .int [(iI 1), (iI 3), (iI 1), (iI 1), (iI 1), (iI 0), (iI 0), (iI 0)]) :: (a3, Own.ArrC Z .long [(jJ 0), (jJ 4294967297), (jJ 8589934594), (jJ 12884901891), (jJ 17179869188), (jJ 0), (jJ 0), (jJ 0), (jJ 0), (jJ 0)]) :: (of', Own.ArrC Z .int [(.int f0), (.int f1), (.int f4), (.int f3), (.int f4), (iI 0), (iI 0), (iI 0)]) :: fr) := O255.pick 5 rfl
          have O257 : Own.Owns n0 h251 ((of', Own.ArrC Z .int [(.int f0), (.int f1), (.int f4), (.int f3), (.int f4), (iI 0), (iI 0), (iI 0)]) :: (ol, Own.ArrC Z .int [(iI 0), (iI 0), (iI 0), (iI 0), (iI 0), (iI 0), (iI 0), (iI 0)]) :: (ok, Own.ArrC Z .long [(jJ 0), (jJ 0), (jJ 0), (jJ 0)]) :: (o0, WEo Z (.ref op) (.ref oc) (.ref of') (.ref ol) (.ref a3) (iI 0) (iI 3) (iI 0) (iI 0)) :: (oc, Own.ArrC Z .int [(iI 1), (iI 3), (iI 1), (iI 1), (iI 1), (iI 0), (iI 0), (iI 0)]) :: (a3, Own.ArrC Z .long [(jJ 0), (jJ 4294967297), (jJ 8589934594), (jJ 12884901891), (jJ 17179869188), (jJ 0), (jJ 0), (jJ 0), (jJ 0), (jJ 0)]) :: fr) := O256.pick 5 rfl
          have O258 : Own.Owns n0 h251 ((a3, Own.ArrC Z .long [(jJ 0), (jJ 4294967297), (jJ 8589934594), (jJ 12884901891), (jJ 17179869188), (jJ 0), (jJ 0), (jJ 0), (jJ 0), (jJ 0)]) :: (of', Own.ArrC Z .int [(.int f0), (.int f1), (.int f4), (.int f3), (.int f4), (iI 0), (iI 0), (iI 0)]) :: (ol, Own.ArrC Z .int [(iI 0), (iI 0), (iI 0), (iI 0), (iI 0), (iI 0), (iI 0), (iI 0)]) :: (ok, Own.ArrC Z .long [(jJ 0), (jJ 0), (jJ 0), (jJ 0)]) :: (o0, WEo Z (.ref op) (.ref oc) (.ref of') (.ref ol) (.ref a3) (iI 0) (iI 3) (iI 0) (iI 0)) :: (oc, Own.ArrC Z .int [(iI 1), (iI 3), (iI 1), (iI 1), (iI 1), (iI 0), (iI 0), (iI 0)]) :: fr) := O257.pick 5 rfl
          exact Own.retV hx hret hlk (hb hby d11_208) (by decide) (by decide) ⟨[1, 3, 1, 1, 1, 0, 0, 0], (3 : Int32), a3, rfl, by rw [show dif f0 f1 = 1 from by rw [dif, if_neg hc30], show dif f1 f2 = 0 from by rw [dif, if_pos hc45], show dif f2 f3 = 0 from by rw [← hc45, dif, if_pos hc173], show dif f3 f4 = 1 from by rw [← hc173, dif, if_neg hc237]]; decide +kernel, O258.tail.tail.tail.tail⟩
        · refine Own.aloadN hx (.ref o0) (hb hby d11_117) rfl rfl rfl ?_
          refine Own.getfield hx hZ hown O234 1 1 rfl rfl (hw _ (wm 36 rfl)) (hb hby d11_118) rfl ?_
          refine Own.iloadN hx (2 : Int32) (hb hby d11_121) rfl rfl ?_
          refine Own.iconst hx (1 : Int32) (hb hby d11_122) rfl (by decide) ?_
          refine Own.isub hx (hb hby d11_123) rfl ?_
          refine Own.vI (1 : Int32) (by decide) ?_
          refine Own.dup2 hx (hb hby d11_124) rfl rfl rfl ?_
          refine Own.iaload hx hZ O234 2 1 rfl (by decide) (v := (.int (3 : Int32))) rfl (hb hby d11_125) rfl ?_
          refine Own.iload hx (1 : Int32) (hb hby d11_126) rfl rfl ?_
          refine Own.iadd hx (hb hby d11_128) rfl ?_
          refine Own.vI (4 : Int32) (by decide) ?_
          refine Own.iastore hx hZ O234 2 1 rfl (by decide) (by exact (show 1 < 8 by decide)) ((a3, Own.ArrC Z .long [(jJ 0), (jJ 4294967297), (jJ 8589934594), (jJ 12884901891), (jJ 17179869188), (jJ 0), (jJ 0), (jJ 0), (jJ 0), (jJ 0)]) :: (o0, WEo Z (.ref op) (.ref oc) (.ref of') (.ref ol) (.ref a3) (iI 0) (iI 5) (iI 0) (iI 0)) :: (oc, Own.ArrC Z .int [(iI 1), (iI 4), (iI 1), (iI 1), (iI 1), (iI 0), (iI 0), (iI 0)]) :: (of', Own.ArrC Z .int [(.int f0), (.int f1), (.int f2), (.int f3), (.int f4), (iI 0), (iI 0), (iI 0)]) :: (ol, Own.ArrC Z .int [(iI 0), (iI 0), (iI 0), (iI 0), (iI 0), (iI 0), (iI 0), (iI 0)]) :: (ok, Own.ArrC Z .long [(jJ 0), (jJ 0), (jJ 0), (jJ 0)]) :: fr) rfl (hb hby d11_129) rfl ?_
          intro h259 O260
          refine Own.goto hx (hb hby d11_130) (by decide) (pc' := 165) rfl ?_
          refine Own.iload hx (4 : Int32) (hb hby d11_165) rfl rfl ?_
          refine Own.iload hx (1 : Int32) (hb hby d11_167) rfl rfl ?_
          refine Own.iadd hx (hb hby d11_169) rfl ?_
          refine Own.vI (5 : Int32) (by decide) ?_
          refine Own.istore hx (5 : Int32) rfl #[.val (.ref o0), .val (.int (0 : Int32)), .val (.int (5 : Int32)), .val (.int (2 : Int32)), .val (.int (5 : Int32)), .val (.int (0 : Int32)), .val (.int (4 : Int32)), .val (.int (1 : Int32)), .val (.int f4)] (hb hby d11_170) rfl rfl ?_
          refine Own.iinc hx (5 : Int32) #[.val (.ref o0), .val (.int (0 : Int32)), .val (.int (5 : Int32)), .val (.int (2 : Int32)), .val (.int (5 : Int32)), .val (.int (0 : Int32)), .val (.int (5 : Int32)), .val (.int (1 : Int32)), .val (.int f4)] (hb hby d11_172) rfl rfl (by decide) rfl ?_
          refine Own.goto hx (hb hby d11_175) (by decide) (pc' := 37) rfl ?_
          refine Own.iload hx (5 : Int32) (hb hby d11_37) rfl rfl ?_
          refine Own.aloadN hx (.ref o0) (hb hby d11_39) rfl rfl rfl ?_
          refine Own.getfield hx hZ hown O260 1 6 rfl rfl (hw _ (wm 55 rfl)) (hb hby d11_40) rfl ?_
          have hc261 : ¬ ((5 : Int32) < (5 : Int32)) := by decide
          refine Own.icmpFn hx (Own.q_ge (5 : Int32) (5 : Int32)) (hb hby d11_43) (pcN := 46) rfl (by decide) (pcT := 178) rfl (fun _ => ?_) (fun q => absurd q hc261)
          refine Own.iload hx (0 : Int32) (hb hby d11_178) rfl rfl ?_
          have hc263 : (0 : Int32) = (0 : Int32) := by decide
          refine Own.ifF hx (Own.z_eq (0 : Int32)) (hb hby d11_180) (pcN := 183) rfl (by decide) (pcT := 199) rfl (fun _ => ?_) (fun q => absurd hc263 q)
          refine Own.aloadN hx (.ref o0) (hb hby d11_199) rfl rfl rfl ?_
          refine Own.iloadN hx (2 : Int32) (hb hby d11_200) rfl rfl ?_
          refine Own.putfield hx hZ hown O260 1 6 rfl rfl (hw _ (wm 55 rfl)) (Or.inl (hw _ (wm 56 rfl))) (hw _ (wm 2 rfl)) (ty := .int) (by decide) rfl rfl ((a3, Own.ArrC Z .long [(jJ 0), (jJ 4294967297), (jJ 8589934594), (jJ 12884901891), (jJ 17179869188), (jJ 0), (jJ 0), (jJ 0), (jJ 0), (jJ 0)]) :: (o0, WEo Z (.ref op) (.ref oc) (.ref of') (.ref ol) (.ref a3) (iI 0) (iI 2) (iI 0) (iI 0)) :: (oc, Own.ArrC Z .int [(iI 1), (iI 4), (iI 1), (iI 1), (iI 1), (iI 0), (iI 0), (iI 0)]) :: (of', Own.ArrC Z .int [(.int f0), (.int f1), (.int f2), (.int f3), (.int f4), (iI 0), (iI 0), (iI 0)]) :: (ol, Own.ArrC Z .int [(iI 0), (iI 0), (iI 0), (iI 0), (iI 0), (iI 0), (iI 0), (iI 0)]) :: (ok, Own.ArrC Z .long [(jJ 0), (jJ 0), (jJ 0), (jJ 0)]) :: fr) rfl (hb hby d11_201) rfl ?_
          intro h265 O266
          refine Own.aloadN hx (.ref o0) (hb hby d11_204) rfl rfl rfl ?_
          have O267 : Own.Owns n0 h265 ((o0, WEo Z (.ref op) (.ref oc) (.ref of') (.ref ol) (.ref a3) (iI 0) (iI 2) (iI 0) (iI 0)) :: (a3, Own.ArrC Z .long [(jJ 0), (jJ 4294967297), (jJ 8589934594), (jJ 12884901891), (jJ 17179869188), (jJ 0), (jJ 0), (jJ 0), (jJ 0), (jJ 0)]) :: (oc, Own.ArrC Z .int [(iI 1), (iI 4), (iI 1), (iI 1), (iI 1), (iI 0), (iI 0), (iI 0)]) :: (of', Own.ArrC Z .int [(.int f0), (.int f1), (.int f2), (.int f3), (.int f4), (iI 0), (iI 0), (iI 0)]) :: (ol, Own.ArrC Z .int [(iI 0), (iI 0), (iI 0), (iI 0), (iI 0), (iI 0), (iI 0), (iI 0)]) :: (ok, Own.ArrC Z .long [(jJ 0), (jJ 0), (jJ 0), (jJ 0)]) :: fr) := O266.pick 1 rfl
          refine Own.callP hx hZ hown (O267.exa (i := 0) rfl) (hw _ (wm 90 rfl)) (hw _ (wm 91 rfl)) (hw _ (wm 2 rfl)) (hw _ (wm 92 rfl)) (hw _ (wm 3 rfl)) (hw _ (wm 93 rfl)) (by decide) pd0 (argsL := []) (rest := []) rfl (W := 0) (Nat.le_of_eq rfl) (rm := ({ frames := 0, cells := 0, slots := 0, locals := 0 } : Room)) (by decide) (by decide) (by decide) (by decide) (k' := 1) (n' := 10) rfl rfl (by rw [hml]; rfl) [(.ref o0)] rfl (hb hby d11_205) (pc' := 208) rfl (rm12 l Z a0 hw o0 h265 n0 op oc of' ol a3 (2 : Int32) (0 : Int32) (0 : Int32) ((a3, Own.ArrC Z .long [(jJ 0), (jJ 4294967297), (jJ 8589934594), (jJ 12884901891), (jJ 17179869188), (jJ 0), (jJ 0), (jJ 0), (jJ 0), (jJ 0)]) :: (oc, Own.ArrC Z .int [(iI 1), (iI 4), (iI 1), (iI 1), (iI 1), (iI 0), (iI 0), (iI 0)]) :: (of', Own.ArrC Z .int [(.int f0), (.int f1), (.int f2), (.int f3), (.int f4), (iI 0), (iI 0), (iI 0)]) :: (ol, Own.ArrC Z .int [(iI 0), (iI 0), (iI 0), (iI 0), (iI 0), (iI 0), (iI 0), (iI 0)]) :: (ok, Own.ArrC Z .long [(jJ 0), (jJ 0), (jJ 0), (jJ 0)]) :: fr) O267) ?_
          rintro _ h268 ⟨rfl, O269⟩
          show Own.Goes _ _ _ _ _ _ _ _ _ _ _ _ _ _ _ _ _ (mkF m 208 #[.val (.ref o0), .val (.int (0 : Int32)), .val (.int (5 : Int32)), .val (.int (2 : Int32)), .val (.int (5 : Int32)), .val (.int (0 : Int32)), .val (.int (5 : Int32)), .val (.int (1 : Int32)), .val (.int f4)] [])
          have O270 : Own.Owns n0 h268 ((oc, Own.ArrC Z .int [(iI 1), (iI 4), (iI 1), (iI 1), (iI 1), (iI 0), (iI 0), (iI 0)]) :: (o0, WEo Z (.ref op) (.ref oc) (.ref of') (.ref ol) (.ref a3) (iI 0) (iI 2) (iI 0) (iI 0)) :: (a3, Own.ArrC Z .long [(jJ 0), (jJ 4294967297), (jJ 8589934594), (jJ 12884901891), (jJ 17179869188), (jJ 0), (jJ 0), (jJ 0), (jJ 0), (jJ 0)]) :: (of', Own.ArrC Z .int [(.int f0), (.int f1), (.int f2), (.int f3), (.int f4), (iI 0), (iI 0), (iI 0)]) :: (ol, Own.ArrC Z .int [(iI 0), (iI 0), (iI 0), (iI 0), (iI 0), (iI 0), (iI 0), (iI 0)]) :: (ok, Own.ArrC Z .long [(jJ 0), (jJ 0), (jJ 0), (jJ 0)]) :: fr) := O269.pick 2 rfl
          have O271 : Own.Owns n0 h268 ((o0, WEo Z (.ref op) (.ref oc) (.ref of') (.ref ol) (.ref a3) (iI 0) (iI 2) (iI 0) (iI 0)) :: (oc, Own.ArrC Z .int [(iI 1), (iI 4), (iI 1), (iI 1), (iI 1), (iI 0), (iI 0), (iI 0)]) :: (a3, Own.ArrC Z .long [(jJ 0), (jJ 4294967297), (jJ 8589934594), (jJ 12884901891), (jJ 17179869188), (jJ 0), (jJ 0), (jJ 0), (jJ 0), (jJ 0)]) :: (of', Own.ArrC Z .int [(.int f0), (.int f1), (.int f2), (.int f3), (.int f4), (iI 0), (iI 0), (iI 0)]) :: (ol, Own.ArrC Z .int [(iI 0), (iI 0), (iI 0), (iI 0), (iI 0), (iI 0), (iI 0), (iI 0)]) :: (ok, Own.ArrC Z .long [(jJ 0), (jJ 0), (jJ 0), (jJ 0)]) :: fr) := O270.pick 1 rfl
          have O272 : Own.Owns n0 h268 ((ok, Own.ArrC Z .long [(jJ 0), (jJ 0), (jJ 0), (jJ 0)]) :: (o0, WEo Z (.ref op) (.ref oc) (.ref of') (.ref ol) (.ref a3) (iI 0) (iI 2) (iI 0) (iI 0)) :: (oc, Own.ArrC Z .int [(iI 1), (iI 4), (iI 1), (iI 1), (iI 1), (iI 0), (iI 0), (iI 0)]) :: (a3, Own.ArrC Z .long [(jJ 0), (jJ 4294967297), (jJ 8589934594), (jJ 12884901891), (jJ 17179869188), (jJ 0), (jJ 0), (jJ 0), (jJ 0), (jJ 0)]) :: (of', Own.ArrC Z .int [(.int f0), (.int f1), (.int f2), (.int f3), (.int f4), (iI 0), (iI 0), (iI 0)]) :: (ol, Own.ArrC Z .int [(iI 0), (iI 0), (iI 0), (iI 0), (iI 0), (iI 0), (iI 0), (iI 0)]) :: fr) := O271.pick 5 rfl
          have O273 : Own.Owns n0 h268 ((ol, Own.ArrC Z .int [(iI 0), (iI 0), (iI 0), (iI 0), (iI 0), (iI 0), (iI 0), (iI 0)]) :: (ok, Own.ArrC Z .long [(jJ 0), (jJ 0), (jJ 0), (jJ 0)]) :: (o0, WEo Z (.ref op) (.ref oc) (.ref of') (.ref ol) (.ref a3) (iI 0) (iI 2) (iI 0) (iI 0)) :: (oc, Own.ArrC Z .int [(iI 1), (iI 4), (iI 1), (iI 1), (iI 1), (iI 0), (iI 0), (iI 0)]) :: (a3, Own.ArrC Z .long [(jJ 0), (jJ 4294967297), (jJ 8589934594), (jJ 12884901891), (jJ 17179869188), (jJ 0), (jJ 0), (jJ 0), (jJ 0), (jJ 0)]) :: (of', Own.ArrC Z .int [(.int f0), (.int f1), (.int f2), (.int f3), (.int f4), (iI 0), (iI 0), (iI 0)]) :: fr) := O272.pick 5 rfl
          have O274 : Own.Owns n0 h268 ((of', Own.ArrC Z .int [(.int f0), (.int f1), (.int f2), (.int f3), (.int f4), (iI 0), (iI 0), (iI 0)]) :: (ol, Own.ArrC Z .int [(iI 0), (iI 0), (iI 0), (iI 0), (iI 0), (iI 0), (iI 0), (iI 0)]) :: (ok, Own.ArrC Z .long [(jJ 0), (jJ 0), (jJ 0), (jJ 0)]) :: (o0, WEo Z (.ref op) (.ref oc) (.ref of') (.ref ol) (.ref a3) (iI 0) (iI 2) (iI 0) (iI 0)) :: (oc, Own.ArrC Z .int [(iI 1), (iI 4), (iI 1), (iI 1), (iI 1), (iI 0), (iI 0), (iI 0)]) :: (a3, Own.ArrC Z .long [(jJ 0), (jJ 4294967297), (jJ 8589934594), (jJ 12884901891), (jJ 17179869188), (jJ 0), (jJ 0), (jJ 0), (jJ 0), (jJ 0)]) :: fr) := O273.pick 5 rfl
          have O275 : Own.Owns n0 h268 ((a3, Own.ArrC Z .long [(jJ 0), (jJ 4294967297), (jJ 8589934594), (jJ 12884901891), (jJ 17179869188), (jJ 0), (jJ 0), (jJ 0), (jJ 0), (jJ 0)]) :: (of', Own.ArrC Z .int [(.int f0), (.int f1), (.int f2), (.int f3), (.int f4), (iI 0), (iI 0), (iI 0)]) :: (ol, Own.ArrC Z .int [(iI 0), (iI 0), (iI 0), (iI 0), (iI 0), (iI 0), (iI 0), (iI 0)]) :: (ok, Own.ArrC Z .long [(jJ 0), (jJ 0), (jJ 0), (jJ 0)]) :: (o0, WEo Z (.ref op) (.ref oc) (.ref of') (.ref ol) (.ref a3) (iI 0) (iI 2) (iI 0) (iI 0)) :: (oc, Own.ArrC Z .int [(iI 1), (iI 4), (iI 1), (iI 1), (iI 1), (iI 0), (iI 0), (iI 0)]) :: fr) := O274.pick 5 rfl
          exact Own.retV hx hret hlk (hb hby d11_208) (by decide) (by decide) ⟨[1, 4, 1, 1, 1, 0, 0, 0], (2 : Int32), a3, rfl, by rw [show dif f0 f1 = 1 from by rw [dif, if_neg hc30], show dif f1 f2 = 0 from by rw [dif, if_pos hc45], show dif f2 f3 = 0 from by rw [← hc45, dif, if_pos hc173], show dif f3 f4 = 0 from by rw [← hc173, dif, if_pos hc237]]; decide +kernel, O275.tail.tail.tail.tail⟩
  · refine Own.aloadN hx (.ref o0) (hb hby d11_117) rfl rfl rfl ?_
    refine Own.getfield hx hZ hown O27 1 1 rfl rfl (hw _ (wm 36 rfl)) (hb hby d11_118) rfl ?_
    refine Own.iloadN hx (1 : Int32) (hb hby d11_121) rfl rfl ?_
    refine Own.iconst hx (1 : Int32) (hb hby d11_122) rfl (by decide) ?_
    refine Own.isub hx (hb hby d11_123) rfl ?_
    refine Own.vI (0 : Int32) (by decide) ?_
    refine Own.dup2 hx (hb hby d11_124) rfl rfl rfl ?_
    refine Own.iaload hx hZ O27 2 0 rfl (by decide) (v := (.int (1 : Int32))) rfl (hb hby d11_125) rfl ?_
    refine Own.iload hx (1 : Int32) (hb hby d11_126) rfl rfl ?_
    refine Own.iadd hx (hb hby d11_128) rfl ?_
    refine Own.vI (2 : Int32) (by decide) ?_
    refine Own.iastore hx hZ O27 2 0 rfl (by decide) (by exact (show 0 < 8 by decide)) ((a3, Own.ArrC Z .long [(jJ 0), (jJ 4294967297), (jJ 0), (jJ 0), (jJ 0), (jJ 0), (jJ 0), (jJ 0), (jJ 0), (jJ 0)]) :: (o0, WEo Z (.ref op) (.ref oc) (.ref of') (.ref ol) (.ref a3) (iI 0) (iI 5) (iI 0) (iI 0)) :: (oc, Own.ArrC Z .int [(iI 2), (iI 1), (iI 1), (iI 1), (iI 1), (iI 0), (iI 0), (iI 0)]) :: (of', Own.ArrC Z .int [(.int f0), (.int f1), (.int f2), (.int f3), (.int f4), (iI 0), (iI 0), (iI 0)]) :: (ol, Own.ArrC Z .int [(iI 0), (iI 0), (iI 0), (iI 0), (iI 0), (iI 0), (iI 0), (iI 0)]) :: (ok, Own.ArrC Z .long [(jJ 0), (jJ 0), (jJ 0), (jJ 0)]) :: fr) rfl (hb hby d11_129) rfl ?_
    intro h276 O277
    refine Own.goto hx (hb hby d11_130) (by decide) (pc' := 165) rfl ?_
    refine Own.iload hx (1 : Int32) (hb hby d11_165) rfl rfl ?_
    refine Own.iload hx (1 : Int32) (hb hby d11_167) rfl rfl ?_
    refine Own.iadd hx (hb hby d11_169) rfl ?_
    refine Own.vI (2 : Int32) (by decide) ?_
    refine Own.istore hx (2 : Int32) rfl #[.val (.ref o0), .val (.int (0 : Int32)), .val (.int (2 : Int32)), .val (.int (1 : Int32)), .val (.int (2 : Int32)), .val (.int (0 : Int32)), .val (.int (1 : Int32)), .val (.int (1 : Int32)), .val (.int f1)] (hb hby d11_170) rfl rfl ?_
    refine Own.iinc hx (2 : Int32) #[.val (.ref o0), .val (.int (0 : Int32)), .val (.int (2 : Int32)), .val (.int (1 : Int32)), .val (.int (2 : Int32)), .val (.int (0 : Int32)), .val (.int (2 : Int32)), .val (.int (1 : Int32)), .val (.int f1)] (hb hby d11_172) rfl rfl (by decide) rfl ?_
    refine Own.goto hx (hb hby d11_175) (by decide) (pc' := 37) rfl ?_
    refine Own.iload hx (2 : Int32) (hb hby d11_37) rfl rfl ?_
    refine Own.aloadN hx (.ref o0) (hb hby d11_39) rfl rfl rfl ?_
    refine Own.getfield hx hZ hown O277 1 6 rfl rfl (hw _ (wm 55 rfl)) (hb hby d11_40) rfl ?_
    have hc278 : (2 : Int32) < (5 : Int32) := by decide
    refine Own.icmpFn hx (Own.q_ge (2 : Int32) (5 : Int32)) (hb hby d11_43) (pcN := 46) rfl (by decide) (pcT := 178) rfl (fun q => absurd hc278 q) (fun _ => ?_)
    refine Own.aloadN hx (.ref o0) (hb hby d11_46) rfl rfl rfl ?_
    refine Own.getfield hx hZ hown O277 1 1 rfl rfl (hw _ (wm 36 rfl)) (hb hby d11_47) rfl ?_
    refine Own.iload hx (2 : Int32) (hb hby d11_50) rfl rfl ?_
    refine Own.iaload hx hZ O277 2 2 rfl (by decide) (v := (.int (1 : Int32))) rfl (hb hby d11_52) rfl ?_
    refine Own.istore hx (1 : Int32) rfl #[.val (.ref o0), .val (.int (0 : Int32)), .val (.int (2 : Int32)), .val (.int (1 : Int32)), .val (.int (2 : Int32)), .val (.int (0 : Int32)), .val (.int (2 : Int32)), .val (.int (1 : Int32)), .val (.int f1)] (hb hby d11_53) rfl rfl ?_
    refine Own.aloadN hx (.ref o0) (hb hby d11_55) rfl rfl rfl ?_
    refine Own.getfield hx hZ hown O277 1 2 rfl rfl (hw _ (wm 38 rfl)) (hb hby d11_56) rfl ?_
    refine Own.iload hx (2 : Int32) (hb hby d11_59) rfl rfl ?_
    refine Own.iaload hx hZ O277 3 2 rfl (by decide) (v := (.int f2)) rfl (hb hby d11_61) rfl ?_
    refine Own.istore hx f2 rfl #[.val (.ref o0), .val (.int (0 : Int32)), .val (.int (2 : Int32)), .val (.int (1 : Int32)), .val (.int (2 : Int32)), .val (.int (0 : Int32)), .val (.int (2 : Int32)), .val (.int (1 : Int32)), .val (.int f2)] (hb hby d11_62) rfl rfl ?_
    refine Own.iload hx f2 (hb hby d11_64) rfl rfl ?_
    refine Own.iloadN hx (0 : Int32) (hb hby d11_66) rfl rfl ?_
    have hc280 : ¬ (f2 = (0 : Int32)) := hz2
    refine Own.icmpFn hx (Own.q_ne f2 (0 : Int32)) (hb hby d11_67) (pcN := 70) rfl (by decide) (pcT := 76) rfl (fun _ => ?_) (fun q => absurd q hc280)
    refine Own.aloadN hx (.ref o0) (hb hby d11_76) rfl rfl rfl ?_
    refine Own.getfield hx hZ hown O277 1 4 rfl rfl (hw _ (wm 42 rfl)) (hb hby d11_77) rfl ?_
    refine Own.iloadN hx (2 : Int32) (hb hby d11_80) rfl rfl ?_
    refine Own.iinc hx (3 : Int32) #[.val (.ref o0), .val (.int (0 : Int32)), .val (.int (3 : Int32)), .val (.int (1 : Int32)), .val (.int (2 : Int32)), .val (.int (0 : Int32)), .val (.int (2 : Int32)), .val (.int (1 : Int32)), .val (.int f2)] (hb hby d11_81) rfl rfl (by decide) rfl ?_
    refine Own.iload hx (2 : Int32) (hb hby d11_84) rfl rfl ?_
    refine Own.i2l hx (hb hby d11_86) rfl ?_
    refine Own.vL (2 : Int64) (by decide) ?_
    refine Own.bipush hx (32 : Int32) (hb hby d11_87) rfl (by decide) ?_
    refine Own.lshl hx (hb hby d11_89) rfl ?_
    refine Own.vL (8589934592 : Int64) (by decide) ?_
    refine Own.iload hx (2 : Int32) (hb hby d11_90) rfl rfl ?_
    refine Own.iload hx (1 : Int32) (hb hby d11_92) rfl rfl ?_
    refine Own.iadd hx (hb hby d11_94) rfl ?_
    refine Own.vI (3 : Int32) (by decide) ?_
    refine Own.iconst hx (1 : Int32) (hb hby d11_95) rfl (by decide) ?_
    refine Own.isub hx (hb hby d11_96) rfl ?_
    refine Own.vI (2 : Int32) (by decide) ?_
    refine Own.i2l hx (hb hby d11_97) rfl ?_
    refine Own.vL (2 : Int64) (by decide) ?_
    refine Own.lor hx (hb hby d11_98) rfl ?_
    refine Own.vL (8589934594 : Int64) (by decide) ?_
    refine Own.lastore hx hZ O277 0 2 rfl (by decide) (by exact (show 2 < 10 by decide)) ((a3, Own.ArrC Z .long [(jJ 0), (jJ 4294967297), (jJ 8589934594), (jJ 0), (jJ 0), (jJ 0), (jJ 0), (jJ 0), (jJ 0), (jJ 0)]) :: (o0, WEo Z (.ref op) (.ref oc) (.ref of') (.ref ol) (.ref a3) (iI 0) (iI 5) (iI 0) (iI 0)) :: (oc, Own.ArrC Z .int [(iI 2), (iI 1), (iI 1), (iI 1), (iI 1), (iI 0), (iI 0), (iI 0)]) :: (of', Own.ArrC Z .int [(.int f0), (.int f1), (.int f2), (.int f3), (.int f4), (iI 0), (iI 0), (iI 0)]) :: (ol, Own.ArrC Z .int [(iI 0), (iI 0), (iI 0), (iI 0), (iI 0), (iI 0), (iI 0), (iI 0)]) :: (ok, Own.ArrC Z .long [(jJ 0), (jJ 0), (jJ 0), (jJ 0)]) :: fr) rfl (hb hby d11_99) rfl ?_
    intro h282 O283
    refine Own.iloadN hx (1 : Int32) (hb hby d11_100) rfl rfl ?_
    have hc284 : (0 : Int32) < (1 : Int32) := by decide
    refine Own.ifFn hx (Own.z_le (1 : Int32)) (hb hby d11_101) (pcN := 104) rfl (by decide) (pcT := 133) rfl (fun q => absurd hc284 q) (fun _ => ?_)
    refine Own.aloadN hx (.ref o0) (hb hby d11_104) rfl rfl rfl ?_
    refine Own.getfield hx hZ hown O283 1 2 rfl rfl (hw _ (wm 38 rfl)) (hb hby d11_105) rfl ?_
    refine Own.iloadN hx (1 : Int32) (hb hby d11_108) rfl rfl ?_
    refine Own.iconst hx (1 : Int32) (hb hby d11_109) rfl (by decide) ?_
    refine Own.isub hx (hb hby d11_110) rfl ?_
    refine Own.vI (0 : Int32) (by decide) ?_
    refine Own.iaload hx hZ O283 3 0 rfl (by decide) (v := (.int f0)) rfl (hb hby d11_111) rfl ?_
    refine Own.iload hx f2 (hb hby d11_112) rfl rfl ?_
    refine Own.icmpFn hx (Own.q_ne f0 f2) (hb hby d11_114) (pcN := 117) rfl (by decide) (pcT := 133) rfl (fun hc286 => ?_) (fun hc286 => ?_)
    · refine Own.aloadN hx (.ref o0) (hb hby d11_133) rfl rfl rfl ?_
      refine Own.getfield hx hZ hown O283 1 1 rfl rfl (hw _ (wm 36 rfl)) (hb hby d11_134) rfl ?_
      refine Own.iloadN hx (1 : Int32) (hb hby d11_137) rfl rfl ?_
      refine Own.iload hx (1 : Int32) (hb hby d11_138) rfl rfl ?_
      refine Own.iastore hx hZ O283 2 1 rfl (by decide) (by exact (show 1 < 8 by decide)) ((a3, Own.ArrC Z .long [(jJ 0), (jJ 4294967297), (jJ 8589934594), (jJ 0), (jJ 0), (jJ 0), (jJ 0), (jJ 0), (jJ 0), (jJ 0)]) :: (o0, WEo Z (.ref op) (.ref oc) (.ref of') (.ref ol) (.ref a3) (iI 0) (iI 5) (iI 0) (iI 0)) :: (oc, Own.ArrC Z .int [(iI 2), (iI 1), (iI 1), (iI 1), (iI 1), (iI 0), (iI 0), (iI 0)]) :: (of', Own.ArrC Z .int [(.int f0), (.int f1), (.int f2), (.int f3), (.int f4), (iI 0), (iI 0), (iI 0)]) :: (ol, Own.ArrC Z .int [(iI 0), (iI 0), (iI 0), (iI 0), (iI 0), (iI 0), (iI 0), (iI 0)]) :: (ok, Own.ArrC Z .long [(jJ 0), (jJ 0), (jJ 0), (jJ 0)]) :: fr) rfl (hb hby d11_140) rfl ?_
      intro h287 O288
      refine Own.aloadN hx (.ref o0) (hb hby d11_141) rfl rfl rfl ?_
      refine Own.getfield hx hZ hown O288 1 2 rfl rfl (hw _ (wm 38 rfl)) (hb hby d11_142) rfl ?_
      refine Own.iloadN hx (1 : Int32) (hb hby d11_145) rfl rfl ?_
      refine Own.iload hx f2 (hb hby d11_146) rfl rfl ?_
      refine Own.iastore hx hZ O288 3 1 rfl (by decide) (by exact (show 1 < 8 by decide)) ((a3, Own.ArrC Z .long [(jJ 0), (jJ 4294967297), (jJ 8589934594), (jJ 0), (jJ 0), (jJ 0), (jJ 0), (jJ 0), (jJ 0), (jJ 0)]) :: (o0, WEo Z (.ref op) (.ref oc) (.ref of') (.ref ol) (.ref a3) (iI 0) (iI 5) (iI 0) (iI 0)) :: (oc, Own.ArrC Z .int [(iI 2), (iI 1), (iI 1), (iI 1), (iI 1), (iI 0), (iI 0), (iI 0)]) :: (of', Own.ArrC Z .int [(.int f0), (.int f2), (.int f2), (.int f3), (.int f4), (iI 0), (iI 0), (iI 0)]) :: (ol, Own.ArrC Z .int [(iI 0), (iI 0), (iI 0), (iI 0), (iI 0), (iI 0), (iI 0), (iI 0)]) :: (ok, Own.ArrC Z .long [(jJ 0), (jJ 0), (jJ 0), (jJ 0)]) :: fr) rfl (hb hby d11_148) rfl ?_
      intro h289 O290
      refine Own.aloadN hx (.ref o0) (hb hby d11_149) rfl rfl rfl ?_
      refine Own.getfield hx hZ hown O290 1 3 rfl rfl (hw _ (wm 40 rfl)) (hb hby d11_150) rfl ?_
      refine Own.iloadN hx (1 : Int32) (hb hby d11_153) rfl rfl ?_
      refine Own.iinc hx (2 : Int32) #[.val (.ref o0), .val (.int (0 : Int32)), .val (.int (3 : Int32)), .val (.int (2 : Int32)), .val (.int (2 : Int32)), .val (.int (0 : Int32)), .val (.int (2 : Int32)), .val (.int (1 : Int32)), .val (.int f2)] (hb hby d11_154) rfl rfl (by decide) rfl ?_
      refine Own.aloadN hx (.ref o0) (hb hby d11_157) rfl rfl rfl ?_
      refine Own.getfield hx hZ hown O290 1 3 rfl rfl (hw _ (wm 40 rfl)) (hb hby d11_158) rfl ?_
      refine Own.iload hx (2 : Int32) (hb hby d11_161) rfl rfl ?_
      refine Own.iaload hx hZ O290 4 2 rfl (by decide) (v := (.int (0 : Int32))) rfl (hb hby d11_163) rfl ?_
      refine Own.iastore hx hZ O290 4 1 rfl (by decide) (by exact (show 1 < 8 by decide)) ((a3, Own.ArrC Z .long [(jJ 0), (jJ 4294967297), (jJ 8589934594), (jJ 0), (jJ 0), (jJ 0), (jJ 0), (jJ 0), (jJ 0), (jJ 0)]) :: (o0, WEo Z (.ref op) (.ref oc) (.ref of') (.ref ol) (.ref a3) (iI 0) (iI 5) (iI 0) (iI 0)) :: (oc, Own.ArrC Z .int [(iI 2), (iI 1), (iI 1), (iI 1), (iI 1), (iI 0), (iI 0), (iI 0)]) :: (of', Own.ArrC Z .int [(.int f0), (.int f2), (.int f2), (.int f3), (.int f4), (iI 0), (iI 0), (iI 0)]) :: (ol, Own.ArrC Z .int [(iI 0), (iI 0), (iI 0), (iI 0), (iI 0), (iI 0), (iI 0), (iI 0)]) :: (ok, Own.ArrC Z .long [(jJ 0), (jJ 0), (jJ 0), (jJ 0)]) :: fr) rfl (hb hby d11_164) rfl ?_
      intro h291 O292
      refine Own.iload hx (2 : Int32) (hb hby d11_165) rfl rfl ?_
      refine Own.iload hx (1 : Int32) (hb hby d11_167) rfl rfl ?_
      refine Own.iadd hx (hb hby d11_169) rfl ?_
      refine Own.vI (3 : Int32) (by decide) ?_
      refine Own.istore hx (3 : Int32) rfl #[.val (.ref o0), .val (.int (0 : Int32)), .val (.int (3 : Int32)), .val (.int (2 : Int32)), .val (.int (3 : Int32)), .val (.int (0 : Int32)), .val (.int (2 : Int32)), .val (.int (1 : Int32)), .val (.int f2)] (hb hby d11_170) rfl rfl ?_
      refine Own.iinc hx (3 : Int32) #[.val (.ref o0), .val (.int (0 : Int32)), .val (.int (3 : Int32)), .val (.int (2 : Int32)), .val (.int (3 : Int32)), .val (.int (0 : Int32)), .val (.int (3 : Int32)), .val (.int (1 : Int32)), .val (.int f2)] (hb hby d11_172) rfl rfl (by decide) rfl ?_
      refine Own.goto hx (hb hby d11_175) (by decide) (pc' := 37) rfl ?_
      refine Own.iload hx (3 : Int32) (hb hby d11_37) rfl rfl ?_
      refine Own.aloadN hx (.ref o0) (hb hby d11_39) rfl rfl rfl ?_
      refine Own.getfield hx hZ hown O292 1 6 rfl rfl (hw _ (wm 55 rfl)) (hb hby d11_40) rfl ?_
      have hc293 : (3 : Int32) < (5 : Int32) := by decide
      refine Own.icmpFn hx (Own.q_ge (3 : Int32) (5 : Int32)) (hb hby d11_43) (pcN := 46) rfl (by decide) (pcT := 178) rfl (fun q => absurd hc293 q) (fun _ => ?_)
      refine Own.aloadN hx (.ref o0) (hb hby d11_46) rfl rfl rfl ?_
      refine Own.getfield hx hZ hown O292 1 1 rfl rfl (hw _ (wm 36 rfl)) (hb hby d11_47) rfl ?_
      refine Own.iload hx (3 : Int32) (hb hby d11_50) rfl rfl ?_
      refine Own.iaload hx hZ O292 2 3 rfl (by decide) (v := (.int (1 : Int32))) rfl (hb hby d11_52) rfl ?_
      refine Own.istore hx (1 : Int32) rfl #[.val (.ref o0), .val (.int (0 : Int32)), .val (.int (3 : Int32)), .val (.int (2 : Int32)), .val (.int (3 : Int32)), .val (.int (0 : Int32)), .val (.int (3 : Int32)), .val (.int (1 : Int32)), .val (.int f2)] (hb hby d11_53) rfl rfl ?_
      refine Own.aloadN hx (.ref o0) (hb hby d11_55) rfl rfl rfl ?_
      refine Own.getfield hx hZ hown O292 1 2 rfl rfl (hw _ (wm 38 rfl)) (hb hby d11_56) rfl ?_
      refine Own.iload hx (3 : Int32) (hb hby d11_59) rfl rfl ?_
      refine Own.iaload hx hZ O292 3 3 rfl (by decide) (v := (.int f3)) rfl (hb hby d11_61) rfl ?_
      refine Own.istore hx f3 rfl #[.val (.ref o0), .val (.int (0 : Int32)), .val (.int (3 : Int32)), .val (.int (2 : Int32)), .val (.int (3 : Int32)), .val (.int (0 : Int32)), .val (.int (3 : Int32)), .val (.int (1 : Int32)), .val (.int f3)] (hb hby d11_62) rfl rfl ?_
      refine Own.iload hx f3 (hb hby d11_64) rfl rfl ?_
      refine Own.iloadN hx (0 : Int32) (hb hby d11_66) rfl rfl ?_
      have hc295 : ¬ (f3 = (0 : Int32)) := hz3
      refine Own.icmpFn hx (Own.q_ne f3 (0 : Int32)) (hb hby d11_67) (pcN := 70) rfl (by decide) (pcT := 76) rfl (fun _ => ?_) (fun q => absurd q hc295)
      refine Own.aloadN hx (.ref o0) (hb hby d11_76) rfl rfl rfl ?_
      refine Own.getfield hx hZ hown O292 1 4 rfl rfl (hw _ (wm 42 rfl)) (hb hby d11_77) rfl ?_
      refine Own.iloadN hx (3 : Int32) (hb hby d11_80) rfl rfl ?_
      refine Own.iinc hx (4 : Int32) #[.val (.ref o0), .val (.int (0 : Int32)), .val (.int (4 : Int32)), .val (.int (2 : Int32)), .val (.int (3 : Int32)), .val (.int (0 : Int32)), .val (.int (3 : Int32)), .val (.int (1 : Int32)), .val (.int f3)] (hb hby d11_81) rfl rfl (by decide) rfl ?_
      refine Own.iload hx (3 : Int32) (hb hby d11_84) rfl rfl ?_
      refine Own.i2l hx (hb hby d11_86) rfl ?_
      refine Own.vL (3 : Int64) (by decide) ?_
      refine Own.bipush hx (32 : Int32) (hb hby d11_87) rfl (by decide) ?_
      refine Own.lshl hx (hb hby d11_89) rfl ?_
      refine Own.vL (12884901888 : Int64) (by decide) ?_
      refine Own.iload hx (3 : Int32) (hb hby d11_90) rfl rfl ?_
      refine Own.iload hx (1 : Int32) (hb hby d11_92) rfl rfl ?_
      refine Own.iadd hx (hb hby d11_94) rfl ?_
      refine Own.vI (4 : Int32) (by decide) ?_
      refine Own.iconst hx (1 : Int32) (hb hby d11_95) rfl (by decide) ?_
      refine Own.isub hx (hb hby d11_96) rfl ?_
      refine Own.vI (3 : Int32) (by decide) ?_
      refine Own.i2l hx (hb hby d11_97) rfl ?_
      refine Own.vL (3 : Int64) (by decide) ?_
      refine Own.lor hx (hb hby d11_98) rfl ?_
      refine Own.vL (12884901891 : Int64) (by decide) ?_
      refine Own.lastore hx hZ O292 0 3 rfl (by decide) (by exact (show 3 < 10 by decide)) ((a3, Own.ArrC Z .long [(jJ 0), (jJ 4294967297), (jJ 8589934594), (jJ 12884901891), (jJ 0), (jJ 0), (jJ 0), (jJ 0), (jJ 0), (jJ 0)]) :: (o0, WEo Z (.ref op) (.ref oc) (.ref of') (.ref ol) (.ref a3) (iI 0) (iI 5) (iI 0) (iI 0)) :: (oc, Own.ArrC Z .int [(iI 2), (iI 1), (iI 1), (iI 1), (iI 1), (iI 0), (iI 0), (iI 0)]) :: (of', Own.ArrC Z .int [(.int f0), (.int f2), (.int f2), (.int f3), (.int f4), (iI 0), (iI 0), (iI 0)]) :: (ol, Own.ArrC Z .int [(iI 0), (iI 0), (iI 0), (iI 0), (iI 0), (iI 0), (iI 0), (iI 0)]) :: (ok, Own.ArrC Z .long [(jJ 0), (jJ 0), (jJ 0), (jJ 0)]) :: fr) rfl (hb hby d11_99) rfl ?_
      intro h297 O298
      refine Own.iloadN hx (2 : Int32) (hb hby d11_100) rfl rfl ?_
      have hc299 : (0 : Int32) < (2 : Int32) := by decide
      refine Own.ifFn hx (Own.z_le (2 : Int32)) (hb hby d11_101) (pcN := 104) rfl (by decide) (pcT := 133) rfl (fun q => absurd hc299 q) (fun _ => ?_)
      refine Own.aloadN hx (.ref o0) (hb hby d11_104) rfl rfl rfl ?_
      refine Own.getfield hx hZ hown O298 1 2 rfl rfl (hw _ (wm 38 rfl)) (hb hby d11_105) rfl ?_
      refine Own.iloadN hx (2 : Int32) (hb hby d11_108) rfl rfl ?_
      refine Own.iconst hx (1 : Int32) (hb hby d11_109) rfl (by decide) ?_
      refine Own.isub hx (hb hby d11_110) rfl ?_
      refine Own.vI (1 : Int32) (by decide) ?_
      refine Own.iaload hx hZ O298 3 1 rfl (by decide) (v := (.int f2)) rfl (hb hby d11_111) rfl ?_
      refine Own.iload hx f3 (hb hby d11_112) rfl rfl ?_
      refine Own.icmpFn hx (Own.q_ne f2 f3) (hb hby d11_114) (pcN := 117) rfl (by decide) (pcT := 133) rfl (fun hc301 => ?_) (fun hc301 => ?_)
      · refine Own.aloadN hx (.ref o0) (hb hby d11_133) rfl rfl rfl ?_
        refine Own.getfield hx hZ hown O298 1 1 rfl rfl (hw _ (wm 36 rfl)) (hb hby d11_134) rfl ?_
        refine Own.iloadN hx (2 : Int32) (hb hby d11_137) rfl rfl ?_
        refine Own.iload hx (1 : Int32) (hb hby d11_138) rfl rfl ?_
        refine Own.iastore hx hZ O298 2 2 rfl (by decide) (by exact (show 2 < 8 by decide)) ((a3, Own.ArrC Z .long [(jJ 0), (jJ 4294967297), (jJ 8589934594), (jJ 12884901891), (jJ 0), (jJ 0), (jJ 0), (jJ 0), (jJ 0), (jJ 0)]) :: (o0, WEo Z (.ref op) (.ref oc) (.ref of') (.ref ol) (.ref a3) (iI 0) (iI 5) (iI 0) (iI 0)) :: (oc, Own.ArrC Z .int [(iI 2), (iI 1), (iI 1), (iI 1), (iI 1), (iI 0), (iI 0), (iI 0)]) :: (of', Own.ArrC Z .int [(.int f0), (.int f2), (.int f2), (.int f3), (.int f4), (iI 0), (iI 0), (iI 0)]) :: (ol, Own.ArrC Z .int [(iI 0), (iI 0), (iI 0), (iI 0), (iI 0), (iI 0), (iI 0), (iI 0)]) :: (ok, Own.ArrC Z .long [(jJ 0), (jJ 0), (jJ 0), (jJ 0)]) :: fr) rfl (hb hby d11_140) rfl ?_
        intro h302 O303
        refine Own.aloadN hx (.ref o0) (hb hby d11_141) rfl rfl rfl ?_
        refine Own.getfield hx hZ hown O303 1 2 rfl rfl (hw _ (wm 38 rfl)) (hb hby d11_142) rfl ?_
        refine Own.iloadN hx (2 : Int32) (hb hby d11_145) rfl rfl ?_
        refine Own.iload hx f3 (hb hby d11_146) rfl rfl ?_
        refine Own.iastore hx hZ O303 3 2 rfl (by decide) (by exact (show 2 < 8 by decide)) ((a3, Own.ArrC Z .long [(jJ 0), (jJ 4294967297), (jJ 8589934594), (jJ 12884901891), (jJ 0), (jJ 0), (jJ 0), (jJ 0), (jJ 0), (jJ 0)]) :: (o0, WEo Z (.ref op) (.ref oc) (.ref of') (.ref ol) (.ref a3) (iI 0) (iI 5) (iI 0) (iI 0)) :: (oc, Own.ArrC Z .int [(iI 2), (iI 1), (iI 1), (iI 1), (iI 1), (iI 0), (iI 0), (iI 0)]) :: (of', Own.ArrC Z .int [(.int f0), (.int f2), (.int f3), (.int f3), (.int f4), (iI 0), (iI 0), (iI 0)]) :: (ol, Own.ArrC Z .int [(iI 0), (iI 0), (iI 0), (iI 0), (iI 0), (iI 0), (iI 0), (iI 0)]) :: (ok, Own.ArrC Z .long [(jJ 0), (jJ 0), (jJ 0), (jJ 0)]) :: fr) rfl (hb hby d11_148) rfl ?_
        intro h304 O305
        refine Own.aloadN hx (.ref o0) (hb hby d11_149) rfl rfl rfl ?_
        refine Own.getfield hx hZ hown O305 1 3 rfl rfl (hw _ (wm 40 rfl)) (hb hby d11_150) rfl ?_
        refine Own.iloadN hx (2 : Int32) (hb hby d11_153) rfl rfl ?_
        refine Own.iinc hx (3 : Int32) #[.val (.ref o0), .val (.int (0 : Int32)), .val (.int (4 : Int32)), .val (.int (3 : Int32)), .val (.int (3 : Int32)), .val (.int (0 : Int32)), .val (.int (3 : Int32)), .val (.int (1 : Int32)), .val (.int f3)] (hb hby d11_154) rfl rfl (by decide) rfl ?_
        refine Own.aloadN hx (.ref o0) (hb hby d11_157) rfl rfl rfl ?_
        refine Own.getfield hx hZ hown O305 1 3 rfl rfl (hw _ (wm 40 rfl)) (hb hby d11_158) rfl ?_
        refine Own.iload hx (3 : Int32) (hb hby d11_161) rfl rfl ?_
        refine Own.iaload hx hZ O305 4 3 rfl (by decide) (v := (.int (0 : Int32))) rfl (hb hby d11_163) rfl ?_
        refine Own.iastore hx hZ O305 4 2 rfl (by decide) (by exact (show 2 < 8 by decide)) ((a3, Own.ArrC Z .long [(jJ 0), (jJ 4294967297), (jJ 8589934594), (jJ 12884901891), (jJ 0), (jJ 0), (jJ 0), (jJ 0), (jJ 0), (jJ 0)]) :: (o0, WEo Z (.ref op) (.ref oc) (.ref of') (.ref ol) (.ref a3) (iI 0) (iI 5) (iI 0) (iI 0)) :: (oc, Own.ArrC Z .int [(iI 2), (iI 1), (iI 1), (iI 1), (iI 1), (iI 0), (iI 0), (iI 0)]) :: (of', Own.ArrC Z .int [(.int f0), (.int f2), (.int f3), (.int f3), (.int f4), (iI 0), (iI 0), (iI 0)]) :: (ol, Own.ArrC Z .int [(iI 0), (iI 0), (iI 0), (iI 0), (iI 0), (iI 0), (iI 0), (iI 0)]) :: (ok, Own.ArrC Z .long [(jJ 0), (jJ 0), (jJ 0), (jJ 0)]) :: fr) rfl (hb hby d11_164) rfl ?_
        intro h306 O307
        refine Own.iload hx (3 : Int32) (hb hby d11_165) rfl rfl ?_
        refine Own.iload hx (1 : Int32) (hb hby d11_167) rfl rfl ?_
        refine Own.iadd hx (hb hby d11_169) rfl ?_
        refine Own.vI (4 : Int32) (by decide) ?_
        refine Own.istore hx (4 : Int32) rfl #[.val (.ref o0), .val (.int (0 : Int32)), .val (.int (4 : Int32)), .val (.int (3 : Int32)), .val (.int (4 : Int32)), .val (.int (0 : Int32)), .val (.int (3 : Int32)), .val (.int (1 : Int32)), .val (.int f3)] (hb hby d11_170) rfl rfl ?_
        refine Own.iinc hx (4 : Int32) #[.val (.ref o0), .val (.int (0 : Int32)), .val (.int (4 : Int32)), .val (.int (3 : Int32)), .val (.int (4 : Int32)), .val (.int (0 : Int32)), .val (.int (4 : Int32)), .val (.int (1 : Int32)), .val (.int f3)] (hb hby d11_172) rfl rfl (by decide) rfl ?_
        refine Own.goto hx (hb hby d11_175) (by decide) (pc' := 37) rfl ?_
        refine Own.iload hx (4 : Int32) (hb hby d11_37) rfl rfl ?_
        refine Own.aloadN hx (.ref o0) (hb hby d11_39) rfl rfl rfl ?_
        refine Own.getfield hx hZ hown O307 1 6 rfl rfl (hw _ (wm 55 rfl)) (hb hby d11_40) rfl ?_
        have hc308 : (4 : Int32) < (5 : Int32) := by decide
        refine Own.icmpFn hx (Own.q_ge (4 : Int32) (5 : Int32)) (hb hby d11_43) (pcN := 46) rfl (by decide) (pcT := 178) rfl (fun q => absurd hc308 q) (fun _ => ?_)
        refine Own.aloadN hx (.ref o0) (hb hby d11_46) rfl rfl rfl ?_
        refine Own.getfield hx hZ hown O307 1 1 rfl rfl (hw _ (wm 36 rfl)) (hb hby d11_47) rfl ?_
        refine Own.iload hx (4 : Int32) (hb hby d11_50) rfl rfl ?_
        refine Own.iaload hx hZ O307 2 4 rfl (by decide) (v := (.int (1 : Int32))) rfl (hb hby d11_52) rfl ?_
        refine Own.istore hx (1 : Int32) rfl #[.val (.ref o0), .val (.int (0 : Int32)), .val (.int (4 : Int32)), .val (.int (3 : Int32)), .val (.int (4 : Int32)), .val (.int (0 : Int32)), .val (.int (4 : Int32)), .val (.int (1 : Int32)), .val (.int f3)] (hb hby d11_53) rfl rfl ?_
        refine Own.aloadN hx (.ref o0) (hb hby d11_55) rfl rfl rfl ?_
        refine Own.getfield hx hZ hown O307 1 2 rfl rfl (hw _ (wm 38 rfl)) (hb hby d11_56) rfl ?_
        refine Own.iload hx (4 : Int32) (hb hby d11_59) rfl rfl ?_
        refine Own.iaload hx hZ O307 3 4 rfl (by decide) (v := (.int f4)) rfl (hb hby d11_61) rfl ?_
        refine Own.istore hx f4 rfl #[.val (.ref o0), .val (.int (0 : Int32)), .val (.int (4 : Int32)), .val (.int (3 : Int32)), .val (.int (4 : Int32)), .val (.int (0 : Int32)), .val (.int (4 : Int32)), .val (.int (1 : Int32)), .val (.int f4)] (hb hby d11_62) rfl rfl ?_
        refine Own.iload hx f4 (hb hby d11_64) rfl rfl ?_
        refine Own.iloadN hx (0 : Int32) (hb hby d11_66) rfl rfl ?_
        have hc310 : ¬ (f4 = (0 : Int32)) := hz4
        refine Own.icmpFn hx (Own.q_ne f4 (0 : Int32)) (hb hby d11_67) (pcN := 70) rfl (by decide) (pcT := 76) rfl (fun _ => ?_) (fun q => absurd q hc310)
        refine Own.aloadN hx (.ref o0) (hb hby d11_76) rfl rfl rfl ?_
        refine Own.getfield hx hZ hown O307 1 4 rfl rfl (hw _ (wm 42 rfl)) (hb hby d11_77) rfl ?_
        refine Own.iloadN hx (4 : Int32) (hb hby d11_80) rfl rfl ?_
        refine Own.iinc hx (5 : Int32) #[.val (.ref o0), .val (.int (0 : Int32)), .val (.int (5 : Int32)), .val (.int (3 : Int32)), .val (.int (4 : Int32)), .val (.int (0 : Int32)), .val (.int (4 : Int32)), .val (.int (1 : Int32)), .val (.int f4)] (hb hby d11_81) rfl rfl (by decide) rfl ?_
        refine Own.iload hx (4 : Int32) (hb hby d11_84) rfl rfl ?_
        refine Own.i2l hx (hb hby d11_86) rfl ?_
        refine Own.vL (4 : Int64) (by decide) ?_
        refine Own.bipush hx (32 : Int32) (hb hby d11_87) rfl (by decide) ?_
        refine Own.lshl hx (hb hby d11_89) rfl ?_
        refine Own.vL (17179869184 : Int64) (by decide) ?_
        refine Own.iload hx (4 : Int32) (hb hby d11_90) rfl rfl ?_
        refine Own.iload hx (1 : Int32) (hb hby d11_92) rfl rfl ?_
        refine Own.iadd hx (hb hby d11_94) rfl ?_
        refine Own.vI (5 : Int32) (by decide) ?_
        refine Own.iconst hx (1 : Int32) (hb hby d11_95) rfl (by decide) ?_
        refine Own.isub hx (hb hby d11_96) rfl ?_
        refine Own.vI (4 : Int32) (by decide) ?_
        refine Own.i2l hx (hb hby d11_97) rfl ?_
        refine Own.vL (4 : Int64) (by decide) ?_
        refine Own.lor hx (hb hby d11_98) rfl ?_
        refine Own.vL (17179869188 : Int64) (by decide) ?_
        refine Own.lastore hx hZ O307 0 4 rfl (by decide) (by exact (show 4 < 10 by decide)) ((a3, Own.ArrC Z .long [(jJ 0), (jJ 4294967297), (jJ 8589934594), (jJ 12884901891), (jJ 17179869188), (jJ 0), (jJ 0), (jJ 0), (jJ 0), (jJ 0)]) :: (o0, WEo Z (.ref op) (.ref oc) (.ref of') (.ref ol) (.ref a3) (iI 0) (iI 5) (iI 0) (iI 0)) :: (oc, Own.ArrC Z .int [(iI 2), (iI 1), (iI 1), (iI 1), (iI 1), (iI 0), (iI 0), (iI 0)]) :: (of', Own.ArrC Z .int [(.int f0), (.int f2), (.int f3), (.int f3), (.int f4), (iI 0), (iI 0), (iI 0)]) :: (ol, Own.ArrC Z .int [(iI 0), (iI 0), (iI 0), (iI 0), (iI 0), (iI 0), (iI 0), (iI 0)]) :: (ok, Own.ArrC Z .long [(jJ 0), (jJ 0), (jJ 0), (jJ 0)]) :: fr) rfl (hb hby d11_99) rfl ?_
        intro h312 O313
        refine Own.iloadN hx (3 : Int32) (hb hby d11_100) rfl rfl ?_
        have hc314 : (0 : Int32) < (3 : Int32) := by decide
        refine Own.ifFn hx (Own.z_le (3 : Int32)) (hb hby d11_101) (pcN := 104) rfl (by decide) (pcT := 133) rfl (fun q => absurd hc314 q) (fun _ => ?_)
        refine Own.aloadN hx (.ref o0) (hb hby d11_104) rfl rfl rfl ?_
        refine Own.getfield hx hZ hown O313 1 2 rfl rfl (hw _ (wm 38 rfl)) (hb hby d11_105) rfl ?_
        refine Own.iloadN hx (3 : Int32) (hb hby d11_108) rfl rfl ?_
        refine Own.iconst hx (1 : Int32) (hb hby d11_109) rfl (by decide) ?_
        refine Own.isub hx (hb hby d11_110) rfl ?_
        refine Own.vI (2 : Int32) (by decide) ?_
        refine Own.iaload hx hZ O313 3 2 rfl (by decide) (v := (.int f3)) rfl (hb hby d11_111) rfl ?_
        refine Own.iload hx f4 (hb hby d11_112) rfl rfl ?_
        refine Own.icmpFn hx (Own.q_ne f3 f4) (hb hby d11_114) (pcN := 117) rfl (by decide) (pcT := 133) rfl (fun hc316 => ?_) (fun hc316 => ?_)
        · refine Own.aloadN hx (.ref o0) (hb hby d11_133) rfl rfl rfl ?_
          refine Own.getfield hx hZ hown O313 1 1 rfl rfl (hw _ (wm 36 rfl)) (hb hby d11_134) rfl ?_
          refine Own.iloadN hx (3 : Int32) (hb hby d11_137) rfl rfl ?_
          refine Own.iload hx (1 : Int32) (hb hby d11_138) rfl rfl ?_
          refine Own.iastore hx hZ O313 2 3 rfl (by decide) (by exact (show 3 < 8 by decide)) ((a3, Own.ArrC Z .long [(jJ 0), (jJ 4294967297), (jJ 8589934594), (jJ 12884901891), (jJ 17179869188), (jJ 0), (jJ 0), (jJ 0), (jJ 0), (jJ 0)]) :: (o0, WEo Z (.ref op) (.ref oc) (.ref of') (.ref ol) (.ref a3) (iI 0) (iI 5) (iI 0) (iI 0)) :: (oc, Own.ArrC Z .int [(iI 2), (iI 1), (iI 1), (iI 1), (iI 1), (iI 0), (iI 0), (iI 0)]) :: (of', Own.ArrC Z .int [(.int f0), (.int f2), (.int f3), (.int f3), (.int f4), (iI 0), (iI 0), (iI 0)]) :: (ol, Own.ArrC Z .int [(iI 0), (iI 0), (iI 0), (iI 0), (iI 0), (iI 0), (iI 0), (iI 0)]) :: (ok, Own.ArrC Z .long [(jJ 0), (jJ 0), (jJ 0), (jJ 0)]) :: fr) rfl (hb hby d11_140) rfl ?_
          intro h317 O318
          refine Own.aloadN hx (.ref o0) (hb hby d11_141) rfl rfl rfl ?_
          refine Own.getfield hx hZ hown O318 1 2 rfl rfl (hw _ (wm 38 rfl)) (hb hby d11_142) rfl ?_
          refine Own.iloadN hx (3 : Int32) (hb hby d11_145) rfl rfl ?_
          refine Own.iload hx f4 (hb hby d11_146) rfl rfl ?_
          refine Own.iastore hx hZ O318 3 3 rfl (by decide) (by exact (show 3 < 8 by decide)) ((a3, Own.ArrC Z .long [(jJ 0), (jJ 4294967297), (jJ 8589934594), (jJ 12884901891), (jJ 17179869188), (jJ 0), (jJ 0), (jJ 0), (jJ 0), (jJ 0)]) :: (o0, WEo Z (.ref op) (.ref oc) (.ref of') (.ref ol) (.ref a3) (iI 0) (iI 5) (iI 0) (iI 0)) :: (oc, Own.ArrC Z .int [(iI 2), (iI 1), (iI 1), (iI 1), (iI 1), (iI 0), (iI 0), (iI 0)]) :: (of', Own.ArrC Z .int [(.int f0), (.int f2), (.int f3), (.int f4), (.int f4), (iI 0), (iI 0), (iI 0)]) :: (ol, Own.ArrC Z .int [(iI 0), (iI 0), (iI 0), (iI 0), (iI 0), (iI 0), (iI 0), (iI 0)]) :: (ok, Own.ArrC Z .long [(jJ 0), (jJ 0), (jJ 0), (jJ 0)]) :: fr) rfl (hb hby d11_148) rfl ?_
          intro h319 O320
          refine Own.aloadN hx (.ref o0) (hb hby d11_149) rfl rfl rfl ?_
          refine Own.getfield hx hZ hown O320 1 3 rfl rfl (hw _ (wm 40 rfl)) (hb hby d11_150) rfl ?_
          refine Own.iloadN hx (3 : Int32) (hb hby d11_153) rfl rfl ?_
          refine Own.iinc hx (4 : Int32) #[.val (.ref o0), .val (.int (0 : Int32)), .val (.int (5 : Int32)), .val (.int (4 : Int32)), .val (.int (4 : Int32)), .val (.int (0 : Int32)), .val (.int (4 : Int32)), .val (.int (1 : Int32)), .val (.int f4)] (hb hby d11_154) rfl rfl (by decide) rfl ?_
          refine Own.aloadN hx (.ref o0) (hb hby d11_157) rfl rfl rfl ?_
          refine Own.getfield hx hZ hown O320 1 3 rfl rfl (hw _ (wm 40 rfl)) (hb hby d11_158) rfl ?_
          refine Own.iload hx (4 : Int32) (hb hby d11_161) rfl rfl ?_
          refine Own.iaload hx hZ O320 4 4 rfl (by decide) (v := (.int (0 : Int32))) rfl (hb hby d11_163) rfl ?_
          refine Own.iastore hx hZ O320 4 3 rfl (by decide) (by exact (show 3 < 8 by decide)) ((a3, Own.ArrC Z .long [(jJ 0), (jJ 4294967297), (jJ 8589934594), (jJ 12884901891), (jJ 17179869188), (jJ 0), (jJ 0), (jJ 0), (jJ 0), (jJ 0)]) :: (o0, WEo Z (.ref op) (.ref oc) (.ref of') (.ref ol) (.ref a3) (iI 0) (iI 5) (iI 0) (iI 0)) :: (oc, Own.ArrC Z .int [(iI 2), (iI 1), (iI 1), (iI 1), (iI 1), (iI 0), (iI 0), (iI 0)]) :: (of', Own.ArrC Z .int [(.int f0), (.int f2), (.int f3), (.int f4), (.int f4), (iI 0), (iI 0), (iI 0)]) :: (ol, Own.ArrC Z .int [(iI 0), (iI 0), (iI 0), (iI 0), (iI 0), (iI 0), (iI 0), (iI 0)]) :: (ok, Own.ArrC Z .long [(jJ 0), (jJ 0), (jJ 0), (jJ 0)]) :: fr) rfl (hb hby d11_164) rfl ?_
          intro h321 O322
          refine Own.iload hx (4 : Int32) (hb hby d11_165) rfl rfl ?_
          refine Own.iload hx (1 : Int32) (hb hby d11_167) rfl rfl ?_
          refine Own.iadd hx (hb hby d11_169) rfl ?_
          refine Own.vI (5 : Int32) (by decide) ?_
          refine Own.istore hx (5 : Int32) rfl #[.val (.ref o0), .val (.int (0 : Int32)), .val (.int (5 : Int32)), .val (.int (4 : Int32)), .val (.int (5 : Int32)), .val (.int (0 : Int32)), .val (.int (4 : Int32)), .val (.int (1 : Int32)), .val (.int f4)] (hb hby d11_170) rfl rfl ?_
          refine Own.iinc hx (5 : Int32) #[.val (.ref o0), .val (.int (0 : Int32)), .val (.int (5 : Int32)), .val (.int (4 : Int32)), .val (.int (5 : Int32)), .val (.int (0 : Int32)), .val (.int (5 : Int32)), .val (.int (1 : Int32)), .val (.int f4)] (hb hby d11_172) rfl rfl (by decide) rfl ?_
          refine Own.goto hx (hb hby d11_175) (by decide) (pc' := 37) rfl ?_
          refine Own.iload hx (5 : Int32) (hb hby d11_37) rfl rfl ?_
          refine Own.aloadN hx (.ref o0) (hb hby d11_39) rfl rfl rfl ?_
          refine Own.getfield hx hZ hown O322 1 6 rfl rfl (hw _ (wm 55 rfl)) (hb hby d11_40) rfl ?_
          have hc323 : ¬ ((5 : Int32) < (5 : Int32)) := by decide
          refine Own.icmpFn hx (Own.q_ge (5 : Int32) (5 : Int32)) (hb hby d11_43) (pcN := 46) rfl (by decide) (pcT := 178) rfl (fun _ => ?_) (fun q => absurd q hc323)
          refine Own.iload hx (0 : Int32) (hb hby d11_178) rfl rfl ?_
          have hc325 : (0 : Int32) = (0 : Int32) := by decide
          refine Own.ifF hx (Own.z_eq (0 : Int32)) (hb hby d11_180) (pcN := 183) rfl (by decide) (pcT := 199) rfl (fun _ => ?_) (fun q => absurd hc325 q)
          refine Own.aloadN hx (.ref o0) (hb hby d11_199) rfl rfl rfl ?_
          refine Own.iloadN hx (4 : Int32) (hb hby d11_200) rfl rfl ?_
          refine Own.putfield hx hZ hown O322 1 6 rfl rfl (hw _ (wm 55 rfl)) (Or.inl (hw _ (wm 56 rfl))) (hw _ (wm 2 rfl)) (ty := .int) (by decide) rfl rfl ((a3, Own.ArrC Z .long [(jJ 0), (jJ 4294967297), (jJ 8589934594), (jJ 12884901891), (jJ 17179869188), (jJ 0), (jJ 0), (jJ 0), (jJ 0), (jJ 0)]) :: (o0, WEo Z (.ref op) (.ref oc) (.ref of') (.ref ol) (.ref a3) (iI 0) (iI 4) (iI 0) (iI 0)) :: (oc, Own.ArrC Z .int [(iI 2), (iI 1), (iI 1), (iI 1), (iI 1), (iI 0), (iI 0), (iI 0)]) :: (of', Own.ArrC Z .int [(.int f0), (.int f2), (.int f3), (.int f4), (.int f4), (iI 0), (iI 0), (iI 0)]) :: (ol, Own.ArrC Z .int [(iI 0), (iI 0), (iI 0), (iI 0), (iI 0), (iI 0), (iI 0), (iI 0)]) :: (ok, Own.ArrC Z .long [(jJ 0), (jJ 0), (jJ 0), (jJ 0)]) :: fr) rfl (hb hby d11_201) rfl ?_
          intro h327 O328
          refine Own.aloadN hx (.ref o0) (hb hby d11_204) rfl rfl rfl ?_
          have O329 : Own.Owns n0 h327 ((o0, WEo Z (.ref op) (.ref oc) (.ref of') (.ref ol) (.ref a3) (iI 0) (iI 4) (iI 0) (iI 0)) :: (a3, Own.ArrC Z .long [(jJ 0), (jJ 4294967297), (jJ 8589934594), (jJ 12884901891), (jJ 17179869188), (jJ 0), (jJ 0), (jJ 0), (jJ 0), (jJ 0)]) :: (oc, Own.ArrC Z .int [(iI 2), (iI 1), (iI 1), (iI 1), (iI 1), (iI 0), (iI 0), (iI 0)]) :: (of', Own.ArrC Z .int [(.int f0), (.int f2), (.int f3), (.int f4), (.int f4), (iI 0), (iI 0), (iI 0)]) :: (ol, Own.ArrC Z .int [(iI 0), (iI 0), (iI 0), (iI 0), (iI 0), (iI 0), (iI 0), (iI 0)]) :: (ok, Own.ArrC Z .long [(jJ 0), (jJ 0), (jJ 0), (jJ 0)]) :: fr) := O328.pick 1 rfl
          refine Own.callP hx hZ hown (O329.exa (i := 0) rfl) (hw _ (wm 90 rfl)) (hw _ (wm 91 rfl)) (hw _ (wm 2 rfl)) (hw _ (wm 92 rfl)) (hw _ (wm 3 rfl)) (hw _ (wm 93 rfl)) (by decide) pd0 (argsL := []) (rest := []) rfl (W := 0) (Nat.le_of_eq rfl) (rm := ({ frames := 0, cells := 0, slots := 0, locals := 0 } : Room)) (by decide) (by decide) (by decide) (by decide) (k' := 1) (n' := 10) rfl rfl (by rw [hml]; rfl) [(.ref o0)] rfl (hb hby d11_205) (pc' := 208) rfl (rm12 l Z a0 hw o0 h327 n0 op oc of' ol a3 (4 : Int32) (0 : Int32) (0 : Int32) ((a3, Own.ArrC Z .long [(jJ 0), (jJ 4294967297), (jJ 8589934594), (jJ 12884901891), (jJ 17179869188), (jJ 0), (jJ 0), (jJ 0), (jJ 0), (jJ 0)]) :: (oc, Own.ArrC Z .int [(iI 2), (iI 1), (iI 1), (iI 1), (iI 1), (iI 0), (iI 0), (iI 0)]) :: (of', Own.ArrC Z .int [(.int f0), (.int f2), (.int f3), (.int f4), (.int f4), (iI 0), (iI 0), (iI 0)]) :: (ol, Own.ArrC Z .int [(iI 0), (iI 0), (iI 0), (iI 0), (iI 0), (iI 0), (iI 0), (iI 0)]) :: (ok, Own.ArrC Z .long [(jJ 0), (jJ 0), (jJ 0), (jJ 0)]) :: fr) O329) ?_
          rintro _ h330 ⟨rfl, O331⟩
          show Own.Goes _ _ _ _ _ _ _ _ _ _ _ _ _ _ _ _ _ (mkF m 208 #[.val (.ref o0), .val (.int (0 : Int32)), .val (.int (5 : Int32)), .val (.int (4 : Int32)), .val (.int (5 : Int32)), .val (.int (0 : Int32)), .val (.int (5 : Int32)), .val (.int (1 : Int32)), .val (.int f4)] [])
          have O332 : Own.Owns n0 h330 ((oc, Own.ArrC Z .int [(iI 2), (iI 1), (iI 1), (iI 1), (iI 1), (iI 0), (iI 0), (iI 0)]) :: (o0, WEo Z (.ref op) (.ref oc) (.ref of') (.ref ol) (.ref a3) (iI 0) (iI 4) (iI 0) (iI 0)) :: (a3, Own.ArrC Z .long [(jJ 0), (jJ 4294967297), (jJ 8589934594), (jJ 12884901891), (jJ 17179869188), (jJ 0), (jJ 0), (jJ 0), (jJ 0), (jJ 0)]) :: (of', Own.ArrC Z .int [(.int f0), (.int f2), (.int f3), (.int f4), (.int f4), (iI 0), (iI 0), (iI 0)]) :: (ol, Own.ArrC Z .int [(iI 0), (iI 0), (iI 0), (iI 0), (iI 0), (iI 0), (iI 0), (iI 0)]) :: (ok, Own.ArrC Z .long [(jJ 0), (jJ 0), (jJ 0), (jJ 0)]) :: fr) := O331.pick 2 rfl
          have O333 : Own.Owns n0 h330 ((o0, WEo Z (.ref op) (.ref oc) (.ref of') (.ref ol) (.ref a3) (iI 0) (iI 4) (iI 0) (iI 0)) :: (oc, Own.ArrC Z .int [(iI 2), (iI 1), (iI 1), (iI 1), (iI 1), (iI 0), (iI 0), (iI 0)]) :: (a3, Own.ArrC Z .long [(jJ 0), (jJ 4294967297), (jJ 8589934594), (jJ 12884901891), (jJ 17179869188), (jJ 0), (jJ 0), (jJ 0), (jJ 0), (jJ 0)]) :: (of', Own.ArrC Z .int [(.int f0), (.int f2), (.int f3), (.int f4), (.int f4), (iI 0), (iI 0), (iI 0)]) :: (ol, Own.ArrC Z .int [(iI 0), (iI 0), (iI 0), (iI 0), (iI 0), (iI 0), (iI 0), (iI 0)]) :: (ok, Own.ArrC Z .long [(jJ 0), (jJ 0), (jJ 0), (jJ 0)]) :: fr) := O332.pick 1 rfl
          have O334 : Own.Owns n0 h330 ((ok, Own.ArrC Z .long [(jJ 0), (jJ 0), (jJ 0), (jJ 0)]) :: (o0, WEo Z (.ref op) (.ref oc) (.ref of') (.ref ol) (.ref a3) (iI 0) (iI 4) (iI 0) (iI 0)) :: (oc, Own.ArrC Z .int [(iI 2), (iI 1), (iI 1), (iI 1), (iI 1), (iI 0), (iI 0), (iI 0)]) :: (a3, Own.ArrC Z .long [(jJ 0), (jJ 4294967297), (jJ 8589934594), (jJ 12884901891), (jJ 17179869188), (jJ 0), (jJ 0), (jJ 0), (jJ 0), (jJ 0)]) :: (of', Own.ArrC Z .int [(.int f0), (.int f2), (.int f3), (.int f4), (.int f4), (iI 0), (iI 0), (iI 0)]) :: (ol, Own.ArrC Z .int [(iI 0), (iI 0), (iI 0), (iI 0), (iI 0), (iI 0), (iI 0), (iI 0)]) :: fr) := O333.pick 5 rfl
          have O335 : Own.Owns n0 h330 ((ol, Own.ArrC Z .int [(iI 0), (iI 0), (iI 0), (iI 0), (iI 0), (iI 0), (iI 0), (iI 0)]) :: (ok, Own.ArrC Z .long [(jJ 0), (jJ 0), (jJ 0), (jJ 0)]) :: (o0, WEo Z (.ref op) (.ref oc) (.ref of') (.ref ol) (.ref a3) (iI 0) (iI 4) (iI 0) (iI 0)) :: (oc, Own.ArrC Z .int [(iI 2), (iI 1), (iI 1), (iI 1), (iI 1), (iI 0), (iI 0), (iI 0)]) :: (a3, Own.ArrC Z .long [(jJ 0), (jJ 4294967297), (jJ 8589934594), (jJ 12884901891), (jJ 17179869188), (jJ 0), (jJ 0), (jJ 0), (jJ 0), (jJ 0)]) :: (of', Own.ArrC Z .int [(.int f0), (.int f2), (.int f3), (.int f4), (.int f4), (iI 0), (iI 0), (iI 0)]) :: fr) := O334.pick 5 rfl
          have O336 : Own.Owns n0 h330 ((of', Own.ArrC Z .int [(.int f0), (.int f2), (.int f3), (.int f4), (.int f4), (iI 0), (iI 0), (iI 0)]) :: (ol, Own.ArrC Z .int [(iI 0), (iI 0), (iI 0), (iI 0), (iI 0), (iI 0), (iI 0), (iI 0)]) :: (ok, Own.ArrC Z .long [(jJ 0), (jJ 0), (jJ 0), (jJ 0)]) :: (o0, WEo Z (.ref op) (.ref oc) (.ref of') (.ref ol) (.ref a3) (iI 0) (iI 4) (iI 0) (iI 0)) :: (oc, Own.ArrC Z .int [(iI 2), (iI 1), (iI 1), (iI 1), (iI 1), (iI 0), (iI 0), (iI 0)]) :: (a3, Own.ArrC Z .long [(jJ 0), (jJ 4294967297), (jJ 8589934594), (jJ 12884901891), (jJ 17179869188), (jJ 0), (jJ 0), (jJ 0), (jJ 0), (jJ 0)]) :: fr) := O335.pick 5 rfl
          have O337 : Own.Owns n0 h330 ((a3, Own.ArrC Z .long [(jJ 0), (jJ 4294967297), (jJ 8589934594), (jJ 12884901891), (jJ 17179869188), (jJ 0), (jJ 0), (jJ 0), (jJ 0), (jJ 0)]) :: (of', Own.ArrC Z .int [(.int f0), (.int f2), (.int f3), (.int f4), (.int f4), (iI 0), (iI 0), (iI 0)]) :: (ol, Own.ArrC Z .int [(iI 0), (iI 0), (iI 0), (iI 0), (iI 0), (iI 0), (iI 0), (iI 0)]) :: (ok, Own.ArrC Z .long [(jJ 0), (jJ 0), (jJ 0), (jJ 0)]) :: (o0, WEo Z (.ref op) (.ref oc) (.ref of') (.ref ol) (.ref a3) (iI 0) (iI 4) (iI 0) (iI 0)) :: (oc, Own.ArrC Z .int [(iI 2), (iI 1), (iI 1), (iI 1), (iI 1), (iI 0), (iI 0), (iI 0)]) :: fr) := O336.pick 5 rfl
          exact Own.retV hx hret hlk (hb hby d11_208) (by decide) (by decide) ⟨[2, 1, 1, 1, 1, 0, 0, 0], (4 : Int32), a3, rfl, by rw [show dif f0 f1 = 0 from by rw [dif, if_pos hc30], show dif f1 f2 = 1 from by rw [← hc30, dif, if_neg hc286], show dif f2 f3 = 1 from by rw [dif, if_neg hc301], show dif f3 f4 = 1 from by rw [dif, if_neg hc316]]; decide +kernel, O337.tail.tail.tail.tail⟩
        · refine Own.aloadN hx (.ref o0) (hb hby d11_117) rfl rfl rfl ?_
          refine Own.getfield hx hZ hown O313 1 1 rfl rfl (hw _ (wm 36 rfl)) (hb hby d11_118) rfl ?_
          refine Own.iloadN hx (3 : Int32) (hb hby d11_121) rfl rfl ?_
          refine Own.iconst hx (1 : Int32) (hb hby d11_122) rfl (by decide) ?_
          refine Own.isub hx (hb hby d11_123) rfl ?_
          refine Own.vI (2 : Int32) (by decide) ?_
          refine Own.dup2 hx (hb hby d11_124) rfl rfl rfl ?_
          refine Own.iaload hx hZ O313 2 2 rfl (by decide) (v := (.int (1 : Int32))) rfl (hb hby d11_125) rfl ?_
          refine Own.iload hx (1 : Int32) (hb hby d11_126) rfl rfl ?_
          refine Own.iadd hx (hb hby d11_128) rfl ?_
          refine Own.vI (2 : Int32) (by decide) ?_
          refine Own.iastore hx hZ O313 2 2 rfl (by decide) (by exact (show 2 < 8 by decide)) ((a3, Own.ArrC Z .long [(jJ 0), (jJ 4294967297), (jJ 8589934594), (jJ 12884901891), (jJ 17179869188), (jJ 0), (jJ 0), (jJ 0), (jJ 0), (jJ 0)]) :: (o0, WEo Z (.ref op) (.ref oc) (.ref of') (.ref ol) (.ref a3) (iI 0) (iI 5) (iI 0) (iI 0)) :: (oc, Own.ArrC Z .int [(iI 2), (iI 1), (iI 2), (iI 1), (iI 1), (iI 0), (iI 0), (iI 0)]) :: (of', Own.ArrC Z .int [(.int f0), (.int f2), (.int f3), (.int f3), (.int f4), (iI 0), (iI 0), (iI 0)]) :: (ol, Own.ArrC Z .int [(iI 0), (iI 0), (iI 0), (iI 0), (iI 0), (iI 0), (iI 0), (iI 0)]) :: (ok, Own.ArrC Z .long [(jJ 0), (jJ 0), (jJ 0), (jJ 0)]) :: fr) rfl (hb hby d11_129) rfl ?_
          intro h338 O339
          refine Own.goto hx (hb hby d11_130) (by decide) (pc' := 165) rfl ?_
          refine Own.iload hx (4 : Int32) (hb hby d11_165) rfl rfl ?_
          refine Own.iload hx (1 : Int32) (hb hby d11_167) rfl rfl ?_
          refine Own.iadd hx (hb hby d11_169) rfl ?_
          refine Own.vI (5 : Int32) (by decide) ?_
          refine Own.istore hx (5 : Int32) rfl #[.val (.ref o0), .val (.int (0 : Int32)), .val (.int (5 : Int32)), .val (.int (3 : Int32)), .val (.int (5 : Int32)), .val (.int (0 : Int32)), .val (.int (4 : Int32)), .val (.int (1 : Int32)), .val (.int f4)] (hb hby d11_170) rfl rfl ?_
          refine Own.iinc hx (5 : Int32) #[.val (.ref o0), .val (.int (0 : Int32)), .val (.int (5 : Int32)), .val (.int (3 : Int32)), .val (.int (5 : Int32)), .val (.int (0 : Int32)), .val (.int (5 : Int32)), .val (.int (1 : Int32)), .val (.int f4)] (hb hby d11_172) rfl rfl (by decide) rfl ?_
          refine Own.goto hx (hb hby d11_175) (by decide) (pc' := 37) rfl ?_
          refine Own.iload hx (5 : Int32) (hb hby d11_37) rfl rfl ?_
          refine Own.aloadN hx (.ref o0) (hb hby d11_39) rfl rfl rfl ?_
          refine Own.getfield hx hZ hown O339 1 6 rfl rfl (hw _ (wm 55 rfl)) (hb hby d11_40) rfl ?_
          have hc340 : ¬ ((5 : Int32) < (5 : Int32)) := by decide
          refine Own.icmpFn hx (Own.q_ge (5 : Int32) (5 : Int32)) (hb hby d11_43) (pcN := 46) rfl (by decide) (pcT := 178) rfl (fun _ => ?_) (fun q => absurd q hc340)
          refine Own.iload hx (0 : Int32) (hb hby d11_178) rfl rfl ?_
          have hc342 : (0 : Int32) = (0 : Int32) := by decide
          refine Own.ifF hx (Own.z_eq (0 : Int32)) (hb hby d11_180) (pcN := 183) rfl (by decide) (pcT := 199) rfl (fun _ => ?_) (fun q => absurd hc342 q)
          refine Own.aloadN hx (.ref o0) (hb hby d11_199) rfl rfl rfl ?_
          refine Own.iloadN hx (3 : Int32) (hb hby d11_200) rfl rfl ?_
          refine Own.putfield hx hZ hown O339 1 6 rfl rfl (hw _ (wm 55 rfl)) (Or.inl (hw _ (wm 56 rfl))) (hw _ (wm 2 rfl)) (ty := .int) (by decide) rfl rfl ((a3, Own.ArrC Z .long [(jJ 0), (jJ 4294967297), (jJ 8589934594), (jJ 12884901891), (jJ 17179869188), (jJ 0), (jJ 0), (jJ 0), (jJ 0), (jJ 0)]) :: (o0, WEo Z (.ref op) (.ref oc) (.ref of') (.ref ol) (.ref a3) (iI 0) (iI 3) (iI 0) (iI 0)) :: (oc, Own.ArrC Z .int [(iI 2), (iI 1), (iI 2), (iI 1), (iI 1), (iI 0), (iI 0), (iI 0)]) :: (of', Own.ArrC Z .int [(.int f0), (.int f2), (.int f3), (.int f3), (.int f4), (iI 0), (iI 0), (iI 0)]) :: (ol, Own.ArrC Z .int [(iI 0), (iI 0), (iI 0), (iI 0), (iI 0), (iI 0), (iI 0), (iI 0)]) :: (ok, Own.ArrC Z .long [(jJ 0), (jJ 0), (jJ 0), (jJ 0)]) :: fr) rfl (hb hby d11_201) rfl ?_
          intro h344 O345
          refine Own.aloadN hx (.ref o0) (hb hby d11_204) rfl rfl rfl ?_
          have O346 : Own.Owns n0 h344 ((o0, WEo Z (.ref op) (.ref oc) (.ref of') (.ref ol) (.ref a3) (iI 0) (iI 3) (iI 0) (iI 0)) :: (a3, Own.ArrC Z .long [(jJ 0), (jJ 4294967297), (jJ 8589934594), (jJ 12884901891), (jJ 17179869188), (jJ 0), (jJ 0), (jJ 0), (jJ 0), (jJ 0)]) :: (oc, Own.ArrC Z .int [(iI 2), (iI 1), (iI 2), (iI 1), (iI 1), (iI 0), (iI 0), (iI 0)]) :: (of', Own.ArrC Z .int [(.int f0), (.int f2), (.int f3), (.int f3), (.int f4), (iI 0), (iI 0), (iI 0)]) :: (ol, Own.ArrC Z .int [(iI 0), (iI 0), (iI 0), (iI 0), (iI 0), (iI 0), (iI 0), (iI 0)]) :: (ok, Own.ArrC Z .long [(jJ 0), (jJ 0), (jJ 0), (jJ 0)]) :: fr) := O345.pick 1 rfl
          refine Own.callP hx hZ hown (O346.exa (i := 0) rfl) (hw _ (wm 90 rfl)) (hw _ (wm 91 rfl)) (hw _ (wm 2 rfl)) (hw _ (wm 92 rfl)) (hw _ (wm 3 rfl)) (hw _ (wm 93 rfl)) (by decide) pd0 (argsL := []) (rest := []) rfl (W := 0) (Nat.le_of_eq rfl) (rm := ({ frames := 0, cells := 0, slots := 0, locals := 0 } : Room)) (by decide) (by decide) (by decide) (by decide) (k' := 1) (n' := 10) rfl rfl (by rw [hml]; rfl) [(.ref o0)] rfl (hb hby d11_205) (pc' := 208) rfl (rm12 l Z a0 hw o0 h344 n0 op oc of' ol a3 (3 : Int32) (0 : Int32) (0 : Int32) ((a3, Own.ArrC Z .long [(jJ 0), (jJ 4294967297), (jJ 8589934594), (jJ 12884901891), (jJ 17179869188), (jJ 0), (jJ 0), (jJ 0), (jJ 0), (jJ 0)]) :: (oc, Own.ArrC Z .int [(iI 2), (iI 1), (iI 2), (iI 1), (iI 1), (iI 0), (iI 0), (iI 0)]) :: (of', Own.ArrC Z .int [(.int f0), (.int f2), (.int f3), (.int f3), (.int f4), (iI 0), (iI 0), (iI 0)]) :: (ol, Own.ArrC Z .int [(iI 0), (iI 0), (iI 0), (iI 0), (iI 0), (iI 0), (iI 0), (iI 0)]) :: (ok, Own.ArrC Z .long [(jJ 0), (jJ 0), (jJ 0), (jJ 0)]) :: fr) O346) ?_
          rintro _ h347 ⟨rfl, O348⟩
          show Own.Goes _ _ _ _ _ _ _ _ _ _ _ _ _ _ _ _ _ (mkF m 208 #[.val (.ref o0), .val (.int (0 : Int32)), .val (.int (5 : Int32)), .val (.int (3 : Int32)), .val (.int (5 : Int32)), .val (.int (0 : Int32)), .val (.int (5 : Int32)), .val (.int (1 : Int32)), .val (.int f4)] [])
          have O349 : Own.Owns n0 h347 ((oc, Own.ArrC Z .int [(iI 2), (iI 1), (iI 2), (iI 1), (iI 1), (iI 0), (iI 0), (iI 0)]) :: (o0, WEo Z (.ref op) (.ref oc) (.ref of') (.ref ol) (.ref a3) (iI 0) (iI 3) (iI 0) (iI 0)) :: (a3, Own.ArrC Z .long [(jJ 0), (jJ 4294967297), (jJ 8589934594), (jJ 12884901891), (jJ 17179869188), (jJ 0), (jJ 0), (jJ 0), (jJ 0), (jJ 0)]) :: (of', Own.ArrC Z .int [(.int f0), (.int f2), (.int f3), (.int f3), (.int f4), (iI 0), (iI 0), (iI 0)]) :: (ol, Own.ArrC Z .int [(iI 0), (iI 0), (iI 0), (iI 0), (iI 0), (iI 0), (iI 0), (iI 0)]) :: (ok, Own.ArrC Z .long [(jJ 0), (jJ 0), (jJ 0), (jJ 0)]) :: fr) := O348.pick 2 rfl
          have O350 : Own.Owns n0 h347 ((o0, WEo Z (.ref op) (.ref oc) (.ref of') (.ref ol) (.ref a3) (iI 0) (iI 3) (iI 0) (iI 0)) :: (oc, Own.ArrC Z .int [(iI 2), (iI 1), (iI 2), (iI 1), (iI 1), (iI 0), (iI 0), (iI 0)]) :: (a3, Own.ArrC Z .long [(jJ 0), (jJ 4294967297), (jJ 8589934594), (jJ 12884901891), (jJ 17179869188), (jJ 0), (jJ 0), (jJ 0), (jJ 0), (jJ 0)]) :: (of', Own.ArrC Z .int [(.int f0), (.int f2), (.int f3), (.int f3), (.int f4), (iI 0), (iI 0), (iI 0)]) :: (ol, Own.ArrC Z .int [(iI 0), (iI 0), (iI 0), (iI 0), (iI 0), (iI 0), (iI 0), (iI 0)]) :: (ok, Own.ArrC Z .long [(jJ 0), (jJ 0), (jJ 0), (jJ 0)]) :: fr) := O349.pick 1 rfl
          have O351 : Own.Owns n0 h347 ((ok, Own.ArrC Z .long [(jJ 0), (jJ 0), (jJ 0), (jJ 0)]) :: (o0, WEo Z (.ref op) (.ref oc) (.ref of') (.ref ol) (.ref a3) (iI 0) (iI 3) (iI 0) (iI 0)) :: (oc, Own.ArrC Z .int [(iI 2), (iI 1), (iI 2), (iI 1), (iI 1), (iI 0), (iI 0), (iI 0)]) :: (a3, Own.ArrC Z .long [(jJ 0), (jJ 4294967297), (jJ 8589934594), (jJ 12884901891), (jJ 17179869188), (jJ 0), (jJ 0), (jJ 0), (jJ 0), (jJ 0)]) :: (of', Own.ArrC Z .int [(.int f0), (.int f2), (.int f3), (.int f3), (.int f4), (iI 0), (iI 0), (iI 0)]) :: (ol, Own.ArrC Z .int [(iI 0), (iI 0), (iI 0), (iI 0), (iI 0), (iI 0), (iI 0), (iI 0)]) :: fr) := O350.pick 5 rfl
          have O352 : Own.Owns n0 h347 ((ol, Own.ArrC Z .int [(iI 0), (iI 0), (iI 0), (iI 0), (iI 0), (iI 0), (iI 0), (iI 0)]) :: (ok, Own.ArrC Z .long [(jJ 0), (jJ 0), (jJ 0), (jJ 0)]) :: (o0, WEo Z (.ref op) (.ref oc) (.ref of') (.ref ol) (.ref a3) (iI 0) (iI 3) (iI 0) (iI 0)) :: (oc, Own.ArrC Z .int [(iI 2), (iI 1), (iI 2), (iI 1), (iI 1), (iI 0), (iI 0), (iI 0)]) :: (a3, Own.ArrC Z .long [(jJ 0), (jJ 4294967297), (jJ 8589934594), (jJ 12884901891), (jJ 17179869188), (jJ 0), (jJ 0), (jJ 0), (jJ 0), (jJ 0)]) :: (of', Own.ArrC Z .int [(.int f0), (.int f2), (.int f3), (.int f3), (.int f4), (iI 0), (iI 0), (iI 0)]) :: fr) := O351.pick 5 rfl
          have O353 : Own.Owns n0 h347 ((of', Own.ArrC Z .int [(.int f0), (.int f2), (.int f3), (.int f3), (.int f4), (iI 0), (iI 0), (iI 0)]) :: (ol, Own.ArrC Z .int [(iI 0), (iI 0), (iI 0), (iI 0), (iI 0), (iI 0), (iI 0), (iI 0)]) :: (ok, Own.ArrC Z .long [(jJ 0), (jJ 0), (jJ 0), (jJ 0)]) :: (o0, WEo Z (.ref op) (.ref oc) (.ref of') (.ref ol) (.ref a3) (iI 0) (iI 3) (iI 0) (iI 0)) :: (oc, Own.ArrC Z .int [(iI 2), (iI 1), (iI 2), (iI 1), (iI 1), (iI 0), (iI 0), (iI 0)]) :: (a3, Own.ArrC Z .long [(jJ 0), (jJ 4294967297), (jJ 8589934594), (jJ 12884901891), (jJ 17179869188), (jJ 0), (jJ 0), (jJ 0), (jJ 0), (jJ 0)]) :: fr) := O352.pick 5 rfl
          have O354 : Own.Owns n0 h347 ((a3, Own.ArrC Z .long [(jJ 0), (jJ 4294967297), (jJ 8589934594), (jJ 12884901891), (jJ 17179869188), (jJ 0), (jJ 0), (jJ 0), (jJ 0), (jJ 0)]) :: (of', Own.ArrC Z .int [(.int f0), (.int f2), (.int f3), (.int f3), (.int f4), (iI 0), (iI 0), (iI 0)]) :: (ol, Own.ArrC Z .int [(iI 0), (iI 0), (iI 0), (iI 0), (iI 0), (iI 0), (iI 0), (iI 0)]) :: (ok, Own.ArrC Z .long [(jJ 0), (jJ 0), (jJ 0), (jJ 0)]) :: (o0, WEo Z (.ref op) (.ref oc) (.ref of') (.ref ol) (.ref a3) (iI 0) (iI 3) (iI 0) (iI 0)) :: (oc, Own.ArrC Z .int [(iI 2), (iI 1), (iI 2), (iI 1), (iI 1), (iI 0), (iI 0), (iI 0)]) :: fr) := O353.pick 5 rfl
          exact Own.retV hx hret hlk (hb hby d11_208) (by decide) (by decide) ⟨[2, 1, 2, 1, 1, 0, 0, 0], (3 : Int32), a3, rfl, by rw [show dif f0 f1 = 0 from by rw [dif, if_pos hc30], show dif f1 f2 = 1 from by rw [← hc30, dif, if_neg hc286], show dif f2 f3 = 1 from by rw [dif, if_neg hc301], show dif f3 f4 = 0 from by rw [dif, if_pos hc316]]; decide +kernel, O354.tail.tail.tail.tail⟩
      · refine Own.aloadN hx (.ref o0) (hb hby d11_117) rfl rfl rfl ?_
        refine Own.getfield hx hZ hown O298 1 1 rfl rfl (hw _ (wm 36 rfl)) (hb hby d11_118) rfl ?_
        refine Own.iloadN hx (2 : Int32) (hb hby d11_121) rfl rfl ?_
        refine Own.iconst hx (1 : Int32) (hb hby d11_122) rfl (by decide) ?_
        refine Own.isub hx (hb hby d11_123) rfl ?_
        refine Own.vI (1 : Int32) (by decide) ?_
        refine Own.dup2 hx (hb hby d11_124) rfl rfl rfl ?_
        refine Own.iaload hx hZ O298 2 1 rfl (by decide) (v := (.int (1 : Int32))) rfl (hb hby d11_125) rfl ?_
        refine Own.iload hx (1 : Int32) (hb hby d11_126) rfl rfl ?_
        refine Own.iadd hx (hb hby d11_128) rfl ?_
        refine Own.vI (2 : Int32) (by decide) ?_
        refine Own.iastore hx hZ O298 2 1 rfl (by decide) (by exact (show 1 < 8 by decide)) ((a3, Own.ArrC Z .long [(jJ 0), (jJ 4294967297), (jJ 8589934594), (jJ 12884901891), (jJ 0), (jJ 0), (jJ 0), (jJ 0), (jJ 0), (jJ 0)]) :: (o0, WEo Z (.ref op) (.ref oc) (.ref of') (.ref ol) (.ref a3) (iI 0) (iI 5) (iI 0) (iI 0)) :: (oc, Own.ArrC Z .int [(iI 2), (iI 2), (iI 1), (iI 1), (iI 1), (iI 0), (iI 0), (iI 0)]) :: (of', Own.ArrC Z .int [(.int f0), (.int f2), (.int f2), (.int f3), (.int f4), (iI 0), (iI 0), (iI 0)]) :: (ol, Own.ArrC Z .int [(iI 0), (iI 0), (iI 0), (iI 0), (iI 0), (iI 0), (iI 0), (iI 0)]) :: (ok, Own.ArrC Z .long [(jJ 0), (jJ 0), (jJ 0), (jJ 0)]) :: fr) rfl (hb hby d11_129) rfl ?_
        intro h355 O356
        refine Own.goto hx (hb hby d11_130) (by decide) (pc' := 165) rfl ?_
        refine Own.iload hx (3 : Int32) (hb hby d11_165) rfl rfl ?_
        refine Own.iload hx (1 : Int32) (hb hby d11_167) rfl rfl ?_
        refine Own.iadd hx (hb hby d11_169) rfl ?_
        refine Own.vI (4 : Int32) (by decide) ?_
        refine Own.istore hx (4 : Int32) rfl #[.val (.ref o0), .val (.int (0 : Int32)), .val (.int (4 : Int32)), .val (.int (2 : Int32)), .val (.int (4 : Int32)), .val (.int (0 : Int32)), .val (.int (3 : Int32)), .val (.int (1 : Int32)), .val (.int f3)] (hb hby d11_170) rfl rfl ?_
        refine Own.iinc hx (4 : Int32) #[.val (.ref o0), .val (.int (0 : Int32)), .val (.int (4 : Int32)), .val (.int (2 : Int32)), .val (.int (4 : Int32)), .val (.int (0 : Int32)), .val (.int (4 : Int32)), .val (.int (1 : Int32)), .val (.int f3)] (hb hby d11_172) rfl rfl (by decide) rfl ?_
        refine Own.goto hx (hb hby d11_175) (by decide) (pc' := 37) rfl ?_
        refine Own.iload hx (4 : Int32) (hb hby d11_37) rfl rfl ?_
        refine Own.aloadN hx (.ref o0) (hb hby d11_39) rfl rfl rfl ?_
        refine Own.getfield hx hZ hown O356 1 6 rfl rfl (hw _ (wm 55 rfl)) (hb hby d11_40) rfl ?_
        have hc357 : (4 : Int32) < (5 : Int32) := by decide
        refine Own.icmpFn hx (Own.q_ge (4 : Int32) (5 : Int32)) (hb hby d11_43) (pcN := 46) rfl (by decide) (pcT := 178) rfl (fun q => absurd hc357 q) (fun _ => ?_)
        refine Own.aloadN hx (.ref o0) (hb hby d11_46) rfl rfl rfl ?_
        refine Own.getfield hx hZ hown O356 1 1 rfl rfl (hw _ (wm 36 rfl)) (hb hby d11_47) rfl ?_
        refine Own.iload hx (4 : Int32) (hb hby d11_50) rfl rfl ?_
        refine Own.iaload hx hZ O356 2 4 rfl (by decide) (v := (.int (1 : Int32))) rfl (hb hby d11_52) rfl ?_
        refine Own.istore hx (1 : Int32) rfl #[.val (.ref o0), .val (.int (0 : Int32)), .val (.int (4 : Int32)), .val (.int (2 : Int32)), .val (.int (4 : Int32)), .val (.int (0 : Int32)), .val (.int (4 : Int32)), .val (.int (1 : Int32)), .val (.int f3)] (hb hby d11_53) rfl rfl ?_
        refine Own.aloadN hx (.ref o0) (hb hby d11_55) rfl rfl rfl ?_
        refine Own.getfield hx hZ hown O356 1 2 rfl rfl (hw _ (wm 38 rfl)) (hb hby d11_56) rfl ?_
        refine Own.iload hx (4 : Int32) (hb hby d11_59) rfl rfl ?_
        refine Own.iaload hx hZ O356 3 4 rfl (by decide) (v := (.int f4)) rfl (hb hby d11_61) rfl ?_
        refine Own.istore hx f4 rfl #[.val (.ref o0), .val (.int (0 : Int32)), .val (.int (4 : Int32)), .val (.int (2 : Int32)), .val (.int (4 : Int32)), .val (.int (0 : Int32)), .val (.int (4 : Int32)), .val (.int (1 : Int32)), .val (.int f4)] (hb hby d11_62) rfl rfl ?_
        refine Own.iload hx f4 (hb hby d11_64) rfl rfl ?_
        refine Own.iloadN hx (0 : Int32) (hb hby d11_66) rfl rfl ?_
        have hc359 : ¬ (f4 = (0 : Int32)) := hz4
        refine Own.icmpFn hx (Own.q_ne f4 (0 : Int32)) (hb hby d11_67) (pcN := 70) rfl (by decide) (pcT := 76) rfl (fun _ => ?_) (fun q => absurd q hc359)
        refine Own.aloadN hx (.ref o0) (hb hby d11_76) rfl rfl rfl ?_
        refine Own.getfield hx hZ hown O356 1 4 rfl rfl (hw _ (wm 42 rfl)) (hb hby d11_77) rfl ?_
        refine Own.iloadN hx (4 : Int32) (hb hby d11_80) rfl rfl ?_
        refine Own.iinc hx (5 : Int32) #[.val (.ref o0), .val (.int (0 : Int32)), .val (.int (5 : Int32)), .val (.int (2 : Int32)), .val (.int (4 : Int32)), .val (.int (0 : Int32)), .val (.int (4 : Int32)), .val (.int (1 : Int32)), .val (.int f4)] (hb hby d11_81) rfl rfl (by decide) rfl ?_
        refine Own.iload hx (4 : Int32) (hb hby d11_84) rfl rfl ?_
        refine Own.i2l hx (hb hby d11_86) rfl ?_
        refine Own.vL (4 : Int64) (by decide) ?_
        refine Own.bipush hx (32 : Int32) (hb hby d11_87) rfl (by decide) ?_
        refine Own.lshl hx (hb hby d11_89) rfl ?_
        refine Own.vL (17179869184 : Int64) (by decide) ?_
        refine Own.iload hx (4 : Int32) (hb hby d11_90) rfl rfl ?_
        refine Own.iload hx (1 : Int32) (hb hby d11_92) rfl rfl ?_
        refine Own.iadd hx (hb hby d11_94) rfl ?_
        refine Own.vI (5 : Int32) (by decide) ?_
        refine Own.iconst hx (1 : Int32) (hb hby d11_95) rfl (by decide) ?_
        refine Own.isub hx (hb hby d11_96) rfl ?_
        refine Own.vI (4 : Int32) (by decide) ?_
        refine Own.i2l hx (hb hby d11_97) rfl ?_
        refine Own.vL (4 : Int64) (by decide) ?_
        refine Own.lor hx (hb hby d11_98) rfl ?_
        refine Own.vL (17179869188 : Int64) (by decide) ?_
        refine Own.lastore hx hZ O356 0 4 rfl (by decide) (by exact (show 4 < 10 by decide)) ((a3, Own.ArrC Z .long [(jJ 0), (jJ 4294967297), (jJ 8589934594), (jJ 12884901891), (jJ 17179869188), (jJ 0), (jJ 0), (jJ 0), (jJ 0), (jJ 0)]) :: (o0, WEo Z (.ref op) (.ref oc) (.ref of') (.ref ol) (.ref a3) (iI 0) (iI 5) (iI 0) (iI 0)) :: (oc, Own.ArrC Z .int [(iI 2), (iI 2), (iI 1), (iI 1), (iI 1), (iI 0), (iI 0), (iI 0)]) :: (of', Own.ArrC Z .int [(.int f0), (.int f2), (.int f2), (.int f3), (.int f4), (iI 0), (iI 0), (iI 0)]) :: (ol, Own.ArrC Z .int [(iI 0), (iI 0), (iI 0), (iI 0), (iI 0), (iI 0), (iI 0), (iI 0)]) :: (ok, Own.ArrC Z .long [(jJ 0), (jJ 0), (jJ 0), (jJ 0)]) :: fr) rfl (hb hby d11_99) rfl ?_
        intro h361 O362
        refine Own.iloadN hx (2 : Int32) (hb hby d11_100) rfl rfl ?_
        have hc363 : (0 : Int32) < (2 : Int32) := by decide
        refine Own.ifFn hx (Own.z_le (2 : Int32)) (hb hby d11_101) (pcN := 104) rfl (by decide) (pcT := 133) rfl (fun q => absurd hc363 q) (fun _ => ?_)
        refine Own.aloadN hx (.ref o0) (hb hby d11_104) rfl rfl rfl ?_
        refine Own.getfield hx hZ hown O362 1 2 rfl rfl (hw _ (wm 38 rfl)) (hb hby d11_105) rfl ?_
        refine Own.iloadN hx (2 : Int32) (hb hby d11_108) rfl rfl ?_
        refine Own.iconst hx (1 : Int32) (hb hby d11_109) rfl (by decide) ?_
        refine Own.isub hx (hb hby d11_110) rfl ?_
        refine Own.vI (1 : Int32) (by decide) ?_
        refine Own.iaload hx hZ O362 3 1 rfl (by decide) (v := (.int f2)) rfl (hb hby d11_111) rfl ?_
        refine Own.iload hx f4 (hb hby d11_112) rfl rfl ?_
        refine Own.icmpFn hx (Own.q_ne f2 f4) (hb hby d11_114) (pcN := 117) rfl (by decide) (pcT := 133) rfl (fun hc365 => ?_) (fun hc365 => ?_)
        · refine Own.aloadN hx (.ref o0) (hb hby d11_133) rfl rfl rfl ?_
          refine Own.getfield hx hZ hown O362 1 1 rfl rfl (hw _ (wm 36 rfl)) (hb hby d11_134) rfl ?_
          refine Own.iloadN hx (2 : Int32) (hb hby d11_137) rfl rfl ?_
          refine Own.iload hx (1 : Int32) (hb hby d11_138) rfl rfl ?_
          refine Own.iastore hx hZ O362 2 2 rfl (by decide) (by exact (show 2 < 8 by decide)) ((a3, Own.ArrC Z .long [(jJ 0), (jJ 4294967297), (jJ 8589934594), (jJ 12884901891), (jJ 17179869188), (jJ 0), (jJ 0), (jJ 0), (jJ 0), (jJ 0)]) :: (o0, WEo Z (.ref op) (.ref oc) (.ref of') (.ref ol) (.ref a3) (iI 0) (iI 5) (iI 0) (iI 0)) :: (oc, Own.ArrC Z .int [(iI 2), (iI 2), (iI 1), (iI 1), (iI 1), (iI 0), (iI 0), (iI 0)]) :: (of', Own.ArrC Z .int [(.int f0), (.int f2), (.int f2), (.int f3), (.int f4), (iI 0), (iI 0), (iI 0)]) :: (ol, Own.ArrC Z .int [(iI 0), (iI 0), (iI 0), (iI 0), (iI 0), (iI 0), (iI 0), (iI 0)]) :: (ok, Own.ArrC Z .long [(jJ 0), (jJ 0), (jJ 0), (jJ 0)]) :: fr) rfl (hb hby d11_140) rfl ?_
          intro h366 O367
          refine Own.aloadN hx (.ref o0) (hb hby d11_141) rfl rfl rfl ?_
          refine Own.getfield hx hZ hown O367 1 2 rfl rfl (hw _ (wm 38 rfl)) (hb hby d11_142) rfl ?_
          refine Own.iloadN hx (2 : Int32) (hb hby d11_145) rfl rfl ?_
          refine Own.iload hx f4 (hb hby d11_146) rfl rfl ?_
          refine Own.iastore hx hZ O367 3 2 rfl (by decide) (by exact (show 2 < 8 by decide)) ((a3, Own.ArrC Z .long [(jJ 0), (jJ 4294967297), (jJ 8589934594), (jJ 12884901891), (jJ 17179869188), (jJ 0), (jJ 0), (jJ 0), (jJ 0), (jJ 0)]) :: (o0, WEo Z (.ref op) (.ref oc) (.ref of') (.ref ol) (.ref a3) (iI 0) (iI 5) (iI 0) (iI 0)) :: (oc, Own.ArrC Z .int [(iI 2), (iI 2), (iI 1), (iI 1), (iI 1), (iI 0), (iI 0), (iI 0)]) :: (of', Own.ArrC Z .int [(.int f0), (.int f2), (.int f4), (.int f3), (.int f4), (iI 0), (iI 0), (iI 0)]) :: (ol, Own.ArrC Z .int [(iI 0), (iI 0), (iI 0), (iI 0), (iI 0), (iI 0), (iI 0), (iI 0)]) :: (ok, Own.ArrC Z .long [(jJ 0), (jJ 0), (jJ 0), (jJ 0)]) :: fr) rfl (hb hby d11_148) rfl ?_
          intro h368 O369
          refine Own.aloadN hx (.ref o0) (hb hby d11_149) rfl rfl rfl ?_
          refine Own.getfield hx hZ hown O369 1 3 rfl rfl (hw _ (wm 40 rfl)) (hb hby d11_150) rfl ?_
          refine Own.iloadN hx (2 : Int32) (hb hby d11_153) rfl rfl ?_
          refine Own.iinc hx (3 : Int32) #[.val (.ref o0), .val (.int (0 : Int32)), .val (.int (5 : Int32)), .val (.int (3 : Int32)), .val (.int (4 : Int32)), .val (.int (0 : Int32)), .val (.int (4 : Int32)), .val (.int (1 : Int32)), .val (.int f4)] (hb hby d11_154) rfl rfl (by decide) rfl ?_
          refine Own.aloadN hx (.ref o0) (hb hby d11_157) rfl rfl rfl ?_
          refine Own.getfield hx hZ hown O369 1 3 rfl rfl (hw _ (wm 40 rfl)) (hb hby d11_158) rfl ?_
          refine Own.iload hx (4 : Int32) (hb hby d11_161) rfl rfl ?_
          refine Own.iaload hx hZ O369 4 4 rfl (by decide) (v := (.int (0 : Int32))) rfl (hb hby d11_163) rfl ?_
          refine Own.iastore hx hZ O369 4 2 rfl (by decide) (by exact (show 2 < 8 by decide)) ((a3, Own.ArrC Z .long [(jJ 0), (jJ 4294967297), (jJ 8589934594), (jJ 12884901891), (jJ 17179869188), (jJ 0), (jJ 0), (jJ 0), (jJ 0), (jJ 0)]) :: (o0, WEo Z (.ref op) (.ref oc) (.ref of') (.ref ol) (.ref a3) (iI 0) (iI 5) (iI 0) (iI 0)) :: (oc, Own.ArrC Z .int [(iI 2), (iI 2), (iI 1), (iI 1), (iI 1), (iI 0), (iI 0), (iI 0)]) :: (of', Own.ArrC Z .int [(.int f0), (.int f2), (.int f4), (.int f3), (.int f4), (iI 0), (iI 0), (iI 0)]) :: (ol, Own.ArrC Z .int [(iI 0), (iI 0), (iI 0), (iI 0), (iI 0), (iI 0), (iI 0), (iI 0)]) :: (ok, Own.ArrC Z .long [(jJ 0), (jJ 0), (jJ 0), (jJ 0)]) :: fr) rfl (hb hby d11_164) rfl ?_
          intro h370 O371
          refine Own.iload hx (4 : Int32) (hb hby d11_165) rfl rfl ?_
          refine Own.iload hx (1 : Int32) (hb hby d11_167) rfl rfl ?_
          refine Own.iadd hx (hb hby d11_169) rfl ?_
          refine Own.vI (5 : Int32) (by decide) ?_
          refine Own.istore hx (5 : Int32) rfl #[.val (.ref o0), .val (.int (0 : Int32)), .val (.int (5 : Int32)), .val (.int (3 : Int32)), .val (.int (5 : Int32)), .val (.int (0 : Int32)), .val (.int (4 : Int32)), .val (.int (1 : Int32)), .val (.int f4)] (hb hby d11_170) rfl rfl ?_
          refine Own.iinc hx (5 : Int32) #[.val (.ref o0), .val (.int (0 : Int32)), .val (.int (5 : Int32)), .val (.int (3 : Int32)), .val (.int (5 : Int32)), .val (.int (0 : Int32)), .val (.int (5 : Int32)), .val (.int (1 : Int32)), .val (.int f4)] (hb hby d11_172) rfl rfl (by decide) rfl ?_
          refine Own.goto hx (hb hby d11_175) (by decide) (pc' := 37) rfl ?_
          refine Own.iload hx (5 : Int32) (hb hby d11_37) rfl rfl ?_
          refine Own.aloadN hx (.ref o0) (hb hby d11_39) rfl rfl rfl ?_
          refine Own.getfield hx hZ hown O371 1 6 rfl rfl (hw _ (wm 55 rfl)) (hb hby d11_40) rfl ?_
          have hc372 : ¬ ((5 : Int32) < (5 : Int32)) := by decide
          refine Own.icmpFn hx (Own.q_ge (5 : Int32) (5 : Int32)) (hb hby d11_43) (pcN := 46) rfl (by decide) (pcT := 178) rfl (fun _ => ?_) (fun q => absurd q hc372)
          refine Own.iload hx (0 : Int32) (hb hby d11_178) rfl rfl ?_
          have hc374 : (0 : Int32) = (0 : Int32) := by decide
          refine Own.ifF hx (Own.z_eq (0 : Int32)) (hb hby d11_180) (pcN := 183) rfl (by decide) (pcT := 199) rfl (fun _ => ?_) (fun q => absurd hc374 q)
          refine Own.aloadN hx (.ref o0) (hb hby d11_199) rfl rfl rfl ?_
          refine Own.iloadN hx (3 : Int32) (hb hby d11_200) rfl rfl ?_
          refine Own.putfield hx hZ hown O371 1 6 rfl rfl (hw _ (wm 55 rfl)) (Or.inl (hw _ (wm 56 rfl))) (hw _ (wm 2 rfl)) (ty := .int) (by decide) rfl rfl ((a3, Own.ArrC Z .long [(jJ 0), (jJ 4294967297), (jJ 8589934594), (jJ 12884901891), (jJ 17179869188), (jJ 0), (jJ 0), (jJ 0), (jJ 0), (jJ 0)]) :: (o0, WEo Z (.ref op) (.ref oc) (.ref of') (.ref ol) (.ref a3) (iI 0) (iI 3) (iI 0) (iI 0)) :: (oc, Own.ArrC Z .int [(iI 2), (iI 2), (iI 1), (iI 1), (iI 1), (iI 0), (iI 0), (iI 0)]) :: (of', Own.ArrC Z .int [(.int f0), (.int f2), (.int f4), (.int f3), (.int f4), (iI 0), (iI 0), (iI 0)]) :: (ol, Own.ArrC Z .int [(iI 0), (iI 0), (iI 0), (iI 0), (iI 0), (iI 0), (iI 0), (iI 0)]) :: (ok, Own.ArrC Z .long [(jJ 0), (jJ 0), (jJ 0), (jJ 0)]) :: fr) rfl (hb hby d11_201) rfl ?_
          intro h376 O377
          refine Own.aloadN hx (.ref o0) (hb hby d11_204) rfl rfl rfl ?_
          have O378 : Own.Owns n0 h376 ((o0, WEo Z (.ref op) (.ref oc) (.ref of') (.ref ol) (.ref a3) (iI 0) (iI 3) (iI 0) (iI 0)) :: (a3, Own.ArrC Z .long [(jJ 0), (jJ 4294967297), (jJ 8589934594), (jJ 12884901891), (jJ 17179869188), (jJ 0), (jJ 0), (jJ 0), (jJ 0), (jJ 0)]) :: (oc, Own.ArrC Z .int [(iI 2), (iI 2), (iI 1), (iI 1), (iI 1), (iI 0), (iI 0), (iI 0)]) :: (of', Own.ArrC Z .int [(.int f0), (.int f2), (.int f4), (.int f3), (.int f4), (iI 0), (iI 0), (iI 0)]) :: (ol, Own.ArrC Z .int [(iI 0), (iI 0), (iI 0), (iI 0), (iI 0), (iI 0), (iI 0), (iI 0)]) :: (ok, Own.ArrC Z .long [(jJ 0), (jJ 0), (jJ 0), (jJ 0)]) :: fr) := O377.pick 1 rfl
          refine Own.callP hx hZ hown (O378.exa (i := 0) rfl) (hw _ (wm 90 rfl)) (hw _ (wm 91 rfl)) (hw _ (wm 2 rfl)) (hw _ (wm 92 rfl)) (hw _ (wm 3 rfl)) (hw _ (wm 93 rfl)) (by decide) pd0 (argsL := []) (rest := []) rfl (W := 0) (Nat.le_of_eq rfl) (rm := ({ frames := 0, cells := 0, slots := 0, locals := 0 } : Room)) (by decide) (by decide) (by decide) (by decide) (k' := 1) (n' := 10) rfl rfl (by rw [hml]; rfl) [(.ref o0)] rfl (hb hby d11_205) (pc' := 208) rfl (rm12 l Z a0 hw o0 h376 n0 op oc of' ol a3 (3 : Int32) (0 : Int32) (0 : Int32) ((a3, Own.ArrC Z .long [(jJ 0), (jJ 4294967297), (jJ 8589934594), (jJ 12884901891), (jJ 17179869188), (jJ 0), (jJ 0), (jJ 0), (jJ 0), (jJ 0)]) :: (oc, Own.ArrC Z .int [(iI 2), (iI 2), (iI 1), (iI 1), (iI 1), (iI 0), (iI 0), (iI 0)]) :: (of', Own.ArrC Z .int [(.int f0), (.int f2), (.int f4), (.int f3), (.int f4), (iI 0), (iI 0), (iI 0)]) :: (ol, Own.ArrC Z .int [(iI 0), (iI 0), (iI 0), (iI 0), (iI 0), (iI 0), (iI 0), (iI 0)]) :: (ok, Own.ArrC Z .long [(jJ 0), (jJ 0), (jJ 0), (jJ 0)]) :: fr) O378) ?_
          rintro _ h379 ⟨rfl, O380⟩
          show Own.Goes _ _ _ _ _ _ _ _ _ _ _ _ _ _ _ _ _ (mkF m 208 #[.val (.ref o0), .val (.int (0 : Int32)), .val (.int (5 : Int32)), .val (.int (3 : Int32)), .val (.int (5 : Int32)), .val (.int (0 : Int32)), .val (.int (5 : Int32)), .val (.int (1 : Int32)), .val (.int f4)] [])
          have O381 : Own.Owns n0 h379 ((oc, Own.ArrC Z .int [(iI 2), (iI 2), (iI 1), (iI 1), (iI 1), (iI 0), (iI 0), (iI 0)]) :: (o0, WEo Z (.ref op) (.ref oc) (.ref of') (.ref ol) (.ref a3) (iI 0) (iI 3) (iI 0) (iI 0)) :: (a3, Own.ArrC Z .long [(jJ 0), (jJ 4294967297), (jJ 8589934594), (jJ 12884901891), (jJ 17179869188), (jJ 0), (jJ 0), (jJ 0), (jJ 0), (jJ 0)]) :: (of', Own.ArrC Z .int [(.int f0), (.int f2), (.int f4), (.int f3), (.int f4), (iI 0), (iI 0), (iI 0)]) :: (ol, Own.ArrC Z .int [(iI 0), (iI 0), (iI 0), (iI 0), (iI 0), (iI 0), (iI 0), (iI 0)]) :: (ok, Own.ArrC Z .long [(jJ 0), (jJ 0), (jJ 0), (jJ 0)]) :: fr) := O380.pick 2 rfl
          have O382 : Own.Owns n0 h379 ((o0, WEo Z (.ref op) (.ref oc) (.ref of') (.ref ol) (.ref a3) (iI 0) (iI 3) (iI 0) (iI 0)) :: (oc, Own.ArrC Z .int [(iI 2), (iI 2), (iI 1), (iI 1), (iI 1), (iI 0), (iI 0), (iI 0)]) :: (a3, Own.ArrC Z .long [(jJ 0), (jJ 4294967297), (jJ 8589934594), (jJ 12884901891), (jJ 17179869188), (jJ 0), (jJ 0), (jJ 0), (jJ 0), (jJ 0)]) :: (of', Own.ArrC Z .int [(.int f0), (.int f2), (.int f4), (.int f3), (.int f4), (iI 0), (iI 0), (iI 0)]) :: (ol, Own.ArrC Z .int [(iI 0), (iI 0), (iI 0), (iI 0), (iI 0), (iI 0), (iI 0), (iI 0)]) :: (ok, Own.ArrC Z .long [(jJ 0), (jJ 0), (jJ 0), (jJ 0)]) :: fr) := O381.pick 1 rfl
          have O383 : Own.Owns n0 h379 ((ok, Own.ArrC Z .long [(jJ 0), (jJ 0), (jJ 0), (jJ 0)]) :: (o0, WEo Z (.ref op) (.ref oc) (.ref of') (.ref ol) (.ref a3) (iI 0) (iI 3) (iI 0) (iI 0)) :: (oc, Own.ArrC Z .int [(iI 2), (iI 2), (iI 1), (iI 1), (iI 1), (iI 0), (iI 0), (iI 0)]) :: (a3, Own.ArrC Z .long [(jJ 0), (jJ 4294967297), (jJ 8589934594), (jJ 12884901891), (jJ 17179869188), (jJ 0), (jJ 0), (jJ 0), (jJ 0), (jJ 0)]) :: (of', Own.ArrC Z .int [(.int f0), (.int f2), (.int f4), (.int f3), (.int f4), (iI 0), (iI 0), (iI 0)]) :: (ol, Own.ArrC Z .int [(iI 0), (iI 0), (iI 0), (iI 0), (iI 0), (iI 0), (iI 0), (iI 0)]) :: fr) := O382.pick 5 rfl
          have O384 : Own.Owns n0 h379 ((ol, Own.ArrC Z .int [(iI 0), (iI 0), (iI 0), (iI 0), (iI 0), (iI 0), (iI 0), (iI 0)]) :: (ok, Own.ArrC Z .long [(jJ 0), (jJ 0), (jJ 0), (jJ 0)]) :: (o0, WEo Z (.ref op) (.ref oc) (.ref of') (.ref ol) (.ref a3) (iI 0) (iI 3) (iI 0) (iI 0)) :: (oc, Own.ArrC Z .int [(iI 2), (iI 2), (iI 1), (iI 1), (iI 1), (iI 0), (iI 0), (iI 0)]) :: (a3, Own.ArrC Z .long [(jJ 0), (jJ 4294967297), (jJ 8589934594), (jJ 12884901891), (jJ 17179869188), (jJ 0), (jJ 0), (jJ 0), (jJ 0), (jJ 0)]) :: (of', Own.ArrC Z .int [(.int f0), (.int f2), (.int f4), (.int f3), (.int f4), (iI 0), (iI 0), (iI 0)]) :: fr) := O383.pick 5 rfl
          have O385 : Own.Owns n0 h379 ((of', Own.ArrC Z .int [(.int f0), (.int f2), (.int f4), (.int f3), (.int f4), (iI 0), (iI 0), (iI 0)]) :: (ol, Own.ArrC Z .int [(iI 0), (iI 0), (iI 0), (iI 0), (iI 0), (iI 0), (iI 0), (iI 0)]) :: (ok, Own.ArrC Z .long [(jJ 0), (jJ 0), (jJ 0), (jJ 0)]) :: (o0, WEo Z (.ref op) (.ref oc) (.ref of') (.ref ol) (.ref a3) (iI 0) (iI 3) (iI 0) (iI 0)) :: (oc, Own.ArrC Z .int [(iI 2), (iI 2), (iI 1), (iI 1), (iI 1), (iI 0), (iI 0), (iI 0)]) :: (a3, Own.ArrC Z .long [(jJ 0), (jJ 4294967297), (jJ 8589934594), (jJ 12884901891), (jJ 17179869188), (jJ 0), (jJ 0), (jJ 0), (jJ 0), (jJ 0)]) :: fr) := O384.pick 5 rfl
          have O386 : Own.Owns n0 h379 ((a3, Own.ArrC Z .long [(jJ 0), (jJ 4294967297), (jJ 8589934594), (jJ 12884901891), (jJ 17179869188), (jJ 0), (jJ 0), (jJ 0), (jJ 0), (jJ 0)]) :: (of', Own.ArrC Z .int [(.int f0), (.int f2), (.int f4), (.int f3), (.int f4), (iI 0), (iI 0), (iI 0)]) :: (ol, Own.ArrC Z .int [(iI 0), (iI 0), (iI 0), (iI 0), (iI 0), (iI 0), (iI 0), (iI 0)]) :: (ok, Own.ArrC Z .long [(jJ 0), (jJ 0), (jJ 0), (jJ 0)]) :: (o0, WEo Z (.ref op) (.ref oc) (.ref of') (.ref ol) (.ref a3) (iI 0) (iI 3) (iI 0) (iI 0)) :: (oc, Own.ArrC Z .int [(iI 2), (iI 2), (iI 1), (iI 1), (iI 1), (iI 0), (iI 0), (iI 0)]) :: fr) := O385.pick 5 rfl
          exact Own.retV hx hret hlk (hb hby d11_208) (by decide) (by decide) ⟨[2, 2, 1, 1, 1, 0, 0, 0], (3 : Int32), a3, rfl, by rw [show dif f0 f1 = 0 from by rw [dif, if_pos hc30], show dif f1 f2 = 1 from by rw [← hc30, dif, if_neg hc286], show dif f2 f3 = 0 from by rw [dif, if_pos hc301], show dif f3 f4 = 1 from by rw [← hc301, dif, if_neg hc365]]; decide +kernel, O386.tail.tail.tail.tail⟩
        · refine Own.aloadN hx (.ref o0) (hb hby d11_117) rfl rfl rfl ?_
          refine Own.getfield hx hZ hown O362 1 1 rfl rfl (hw _ (wm 36 rfl)) (hb hby d11_118) rfl ?_
          refine Own.iloadN hx (2 : Int32) (hb hby d11_121) rfl rfl ?_
          refine Own.iconst hx (1 : Int32) (hb hby d11_122) rfl (by decide) ?_
          refine Own.isub hx (hb hby d11_123) rfl ?_
          refine Own.vI (1 : Int32) (by decide) ?_
          refine Own.dup2 hx (hb hby d11_124) rfl rfl rfl ?_
          refine Own.iaload hx hZ O362 2 1 rfl (by decide) (v := (.int (2 : Int32))) rfl (hb hby d11_125) rfl ?_
          refine Own.iload hx (1 : Int32) (hb hby d11_126) rfl rfl ?_
          refine Own.iadd hx (hb hby d11_128) rfl ?_
          refine Own.vI (3 : Int32) (by decide) ?_
          refine Own.iastore hx hZ O362 2 1 rfl (by decide) (by exact (show 1 < 8 by decide)) ((a3, Own.ArrC Z .long [(jJ 0), (jJ 4294967297), (jJ 8589934594), (jJ 12884901891), (jJ 17179869188), (jJ 0), (jJ 0), (jJ 0), (jJ 0), (jJ 0)]) :: (o0, WEo Z (.ref op) (.ref oc) (.ref of') (.ref ol) (.ref a3) (iI 0) (iI 5) (iI 0) (iI 0)) :: (oc, Own.ArrC Z .int [(iI 2), (iI 3), (iI 1), (iI 1), (iI 1), (iI 0), (iI 0), (iI 0)]) :: (of', Own.ArrC Z .int [(.int f0), (.int f2), (.int f2), (.int f3), (.int f4), (iI 0), (iI 0), (iI 0)]) :: (ol, Own.ArrC Z .int [(iI 0), (iI 0), (iI 0), (iI 0), (iI 0), (iI 0), (iI 0), (iI 0)]) :: (ok, Own.ArrC Z .long [(jJ 0), (jJ 0), (jJ 0), (jJ 0)]) :: fr) rfl (hb hby d11_129) rfl ?_
          intro h387 O388
          refine Own.goto hx (hb hby d11_130) (by decide) (pc' := 165) rfl ?_
          refine Own.iload hx (4 : Int32) (hb hby d11_165) rfl rfl ?_
          refine Own.iload hx (1 : Int32) (hb hby d11_167) rfl rfl ?_
          refine Own.iadd hx (hb hby d11_169) rfl ?_
          refine Own.vI (5 : Int32) (by decide) ?_
          refine Own.istore hx (5 : Int32) rfl #[.val (.ref o0), .val (.int (0 : Int32)), .val (.int (5 : Int32)), .val (.int (2 : Int32)), .val (.int (5 : Int32)), .val (.int (0 : Int32)), .val (.int (4 : Int32)), .val (.int (1 : Int32)), .val (.int f4)] (hb hby d11_170) rfl rfl ?_
          refine Own.iinc hx (5 : Int32) #[.val (.ref o0), .val (.int (0 : Int32)), .val (.int (5 : Int32)), .val (.int (2 : Int32)), .val (.int (5 : Int32)), .val (.int (0 : Int32)), .val (.int (5 : Int32)), .val (.int (1 : Int32)), .val (.int f4)] (hb hby d11_172) rfl rfl (by decide) rfl ?_
          refine Own.goto hx (hb hby d11_175) (by decide) (pc' := 37) rfl ?_
          refine Own.iload hx (5 : Int32) (hb hby d11_37) rfl rfl ?_
          refine Own.aloadN hx (.ref o0) (hb hby d11_39) rfl rfl rfl ?_
          refine Own.getfield hx hZ hown O388 1 6 rfl rfl (hw _ (wm 55 rfl)) (hb hby d11_40) rfl ?_
          have hc389 : ¬ ((5 : Int32) < (5 : Int32)) := by decide
          refine Own.icmpFn hx (Own.q_ge (5 : Int32) (5 : Int32)) (hb hby d11_43) (pcN := 46) rfl (by decide) (pcT := 178) rfl (fun _ => ?_) (fun q => absurd q hc389)
          refine Own.iload hx (0 : Int32) (hb hby d11_178) rfl rfl ?_
          have hc391 : (0 : Int32) = (0 : Int32) := by decide
          refine Own.ifF hx (Own.z_eq (0 : Int32)) (hb hby d11_180) (pcN := 183) rfl (by decide) (pcT := 199) rfl (fun _ => ?_) (fun q => absurd hc391 q)
          refine Own.aloadN hx (.ref o0) (hb hby d11_199) rfl rfl rfl ?_
          refine Own.iloadN hx (2 : Int32) (hb hby d11_200) rfl rfl ?_
          refine Own.putfield hx hZ hown O388 1 6 rfl rfl (hw _ (wm 55 rfl)) (Or.inl (hw _ (wm 56 rfl))) (hw _ (wm 2 rfl)) (ty := .int) (by decide) rfl rfl ((a3, Own.ArrC Z .long [(jJ 0), (jJ 4294967297), (jJ 8589934594), (jJ 12884901891), (jJ 17179869188), (jJ 0), (jJ 0), (jJ 0), (jJ 0), (jJ 0)]) :: (o0, WEo Z (.ref op) (.ref oc) (.ref of') (.ref ol) (.ref a3) (iI 0) (iI 2) (iI 0) (iI 0)) :: (oc, Own.ArrC Z .int [(iI 2), (iI 3), (iI 1), (iI 1), (iI 1), (iI 0), (iI 0), (iI 0)]) :: (of', Own.ArrC Z .int [(.int f0), (.int f2), (.int f2), (.int f3), (.int f4), (iI 0), (iI 0), (iI 0)]) :: (ol, Own.ArrC Z .int [(iI 0), (iI 0), (iI 0), (iI 0), (iI 0), (iI 0), (iI 0), (iI 0)]) :: (ok, Own.ArrC Z .long [(jJ 0), (jJ 0), (jJ 0), (jJ 0)]) :: fr) rfl (hb hby d11_201) rfl ?_
          intro h393 O394
          refine Own.aloadN hx (.ref o0) (hb hby d11_204) rfl rfl rfl ?_
          have O395 : Own.Owns n0 h393 ((o0, WEo Z (.ref op) (.ref oc) (.ref of') (.ref ol) (.ref a3) (iI 0) (iI 2) (iI 0) (iI 0)) :: (a3, Own.ArrC Z .long [(jJ 0), (jJ 4294967297), (jJ 8589934594), (jJ 12884901891), (jJ 17179869188), (jJ 0), (jJ 0), (jJ 0), (jJ 0), (jJ 0)]) :: (oc, Own.ArrC Z .int [(iI 2), (iI 3), (iI 1), (iI 1), (iI 1), (iI 0), (iI 0), (iI 0)]) :: (of', Own.ArrC Z .int [(.int f0), (.int f2), (.int f2), (.int f3), (.int f4), (iI 0), (iI 0), (iI 0)]) :: (ol, Own.ArrC Z .int [(iI 0), (iI 0), (iI 0), (iI 0), (iI 0), (iI 0), (iI 0), (iI 0)]) :: (ok, Own.ArrC Z .long [(jJ 0), (jJ 0), (jJ 0), (jJ 0)]) :: fr) := O394.pick 1 rfl
          refine Own.callP hx hZ hown (O395.exa (i := 0) rfl) (hw _ (wm 90 rfl)) (hw _ (wm 91 rfl)) (hw _ (wm 2 rfl)) (hw _ (wm 92 rfl)) (hw _ (wm 3 rfl)) (hw _ (wm 93 rfl)) (by decide) pd0 (argsL := []) (rest := []) rfl (W := 0) (Nat.le_of_eq rfl) (rm := ({ frames := 0, cells := 0, slots := 0, locals := 0 } : Room)) (by decide) (by decide) (by decide) (by decide) (k' := 1) (n' := 10) rfl rfl (by rw [hml]; rfl) [(.ref o0)] rfl (hb hby d11_205) (pc' := 208) rfl (rm12 l Z a0 hw o0 h393 n0 op oc of' ol a3 (2 : Int32) (0 : Int32) (0 : Int32) ((a3, Own.ArrC Z .long [(jJ 0), (jJ 4294967297), (jJ 8589934594), (jJ 12884901891), (jJ 17179869188), (jJ 0), (jJ 0), (jJ 0), (jJ 0), (jJ 0)]) :: (oc, Own.ArrC Z .int [(iI 2), (iI 3), (iI 1), (iI 1), (iI 1), (iI 0), (iI 0), (iI 0)]) :: (of', Own.ArrC Z .int [(.int f0), (.int f2), (.int f2), (.int f3), (.int f4), (iI 0), (iI 0), (iI 0)]) :: (ol, Own.ArrC Z .int [(iI 0), (iI 0), (iI 0), (iI 0), (iI 0), (iI 0), (iI 0), (iI 0)]) :: (ok, Own.ArrC Z .long [(jJ 0), (jJ 0), (jJ 0), (jJ 0)]) :: fr) O395) ?_
          rintro _ h396 ⟨rfl, O397⟩
          show Own.Goes _ _ _ _ _ _ _ _ _ _ _ _ _ _ _ _ _ (mkF m 208 #[.val (.ref o0), .val (.int (0 : Int32)), .val (.int (5 : Int32)), .val (.int (2 : Int32)), .val (.int (5 : Int32)), .val (.int (0 : Int32)), .val (.int (5 : Int32)), .val (.int (1 : Int32)), .val (.int f4)] [])
          have O398 : Own.Owns n0 h396 ((oc, Own.ArrC Z .int [(iI 2), (iI 3), (iI 1), (iI 1), (iI 1), (iI 0), (iI 0), (iI 0)]) :: (o0, WEo Z (.ref op) (.ref oc) (.ref of') (.ref ol) (.ref a3) (iI 0) (iI 2) (iI 0) (iI 0)) :: (a3, Own.ArrC Z .long [(jJ 0), (jJ 4294967297), (jJ 8589934594), (jJ 12884901891), (jJ 17179869188), (jJ 0), (jJ 0), (jJ 0), (jJ 0), (jJ 0)]) :: (of', Own.ArrC Z .int [(.int f0), (.int f2), (.int f2), (.int f3), (.int f4), (iI 0), (iI 0), (iI 0)]) :: (ol, Own.ArrC Z .int [(iI 0), (iI 0), (iI 0), (iI 0), (iI 0), (iI 0), (iI 0), (iI 0)]) :: (ok, Own.ArrC Z .long [(jJ 0), (jJ 0), (jJ 0), (jJ 0)]) :: fr) := O397.pick 2 rfl
          have O399 : Own.Owns n0 h396 ((o0, WEo Z (.ref op) (.ref oc) (.ref of') (.ref ol) (.ref a3) (iI 0) (iI 2) (iI 0) (iI 0)) :: (oc, Own.ArrC Z .int [(iI 2), (iI 3), (iI 1), (iI 1), (iI 1), (iI 0), (iI 0), (iI 0)]) :: (a3, Own.ArrC Z .long [(jJ 0), (jJ 4294967297), (jJ 8589934594), (jJ 12884901891), (jJ 17179869188), (jJ 0), (jJ 0), (jJ 0), (jJ 0), (jJ 0)]) :: (of', Own.ArrC Z .int [(.int f0), (.int f2), (.int f2), (.int f3), (.int f4), (iI 0), (iI 0), (iI 0)]) :: (ol, Own.ArrC Z .int [(iI 0), (iI 0), (iI 0), (iI 0), (iI 0), (iI 0), (iI 0), (iI 0)]) :: (ok, Own.ArrC Z .long [(jJ 0), (jJ 0), (jJ 0), (jJ 0)]) :: fr) := O398.pick 1 rfl
          have O400 : Own.Owns n0 h396 ((ok, Own.ArrC Z .long [(jJ 0), (jJ 0), (jJ 0), (jJ 0)]) :: (o0, WEo Z (.ref op) (.ref oc) (.ref of') (.ref ol) (.ref a3) (iI 0) (iI 2) (iI 0) (iI 0)) :: (oc, Own.ArrC Z .int [(iI 2), (iI 3), (iI 1), (iI 1), (iI 1), (iI 0), (iI 0), (iI 0)]) :: (a3, Own.ArrC Z .long [(jJ 0), (jJ 4294967297), (jJ 8589934594), (jJ 12884901891), (jJ 17179869188), (jJ 0), (jJ 0), (jJ 0), (jJ 0), (jJ 0)]) :: (of', Own.ArrC Z .int [(.int f0), (.int f2), (.int f2), (.int f3), (.int f4), (iI 0), (iI 0), (iI 0)]) :: (ol, Own.ArrC Z .int [(iI 0), (iI 0), (iI 0), (iI 0), (iI 0), (iI 0), (iI 0), (iI 0)]) :: fr) := O399.pick 5 rfl
          have O401 : Own.Owns n0 h396 ((ol, Own.ArrC Z .int [(iI 0), (iI 0), (iI 0), (iI 0), (iI 0), (iI 0), (iI 0), (iI 0)]) :: (ok, Own.ArrC Z .long [(jJ 0), (jJ 0), (jJ 0), (jJ 0)]) :: (o0, WEo Z (.ref op) (.ref oc) (.ref of') (.ref ol) (.ref a3) (iI 0) (iI 2) (iI 0) (iI 0)) :: (oc, Own.ArrC Z .int [(iI 2), (iI 3), (iI 1), (iI 1), (iI 1), (iI 0), (iI 0), (iI 0)]) :: (a3, Own.ArrC Z .long [(jJ 0), (jJ 4294967297), (jJ 8589934594), (jJ 12884901891), (jJ 17179869188), (jJ 0), (jJ 0), (jJ 0), (jJ 0), (jJ 0)]) :: (of', Own.ArrC Z .int [(.int f0), (.int f2), (.int f2), (.int f3), (.int f4), (iI 0), (iI 0), (iI 0)]) :: fr) := O400.pick 5 rfl
          have O402 : Own.Owns n0 h396 ((of', Own.ArrC Z .int [(.int f0), (.int f2), (.int f2), (.int f3), (.int f4), (iI 0), (iI 0), (iI 0)]) :: (ol, Own.ArrC Z .int [(iI 0), (iI 0), (iI 0), (iI 0), (iI 0), (iI 0), (iI 0), (iI 0)]) :: (ok, Own.ArrC Z .long [(jJ 0), (jJ 0), (jJ 0), (jJ 0)]) :: (o0, WEo Z (.ref op) (.ref oc) (.ref of') (.ref ol) (.ref a3) (iI 0) (iI 2) (iI 0) (iI 0)) :: (oc, Own.ArrC Z .int [(iI 2), (iI 3), (iI 1), (iI 1), (iI 1), (iI 0), (iI 0), (iI 0)]) :: (a3, Own.ArrC Z .long [(jJ 0), (jJ 4294967297), (jJ 8589934594), (jJ 12884901891), (jJ 17179869188), (jJ 0), (jJ 0), (jJ 0), (jJ 0), (jJ 0)]) :: fr) := O401.pick 5 rfl
          have O403 : Own.Owns n0 h396 ((a3, Own.ArrC Z .long [(jJ 0), (jJ 4294967297), (jJ 8589934594), (jJ 12884901891), (jJ 17179869188), (jJ 0), (jJ 0), (jJ 0), (jJ 0), (jJ 0)]) :: (of', Own.ArrC Z .int [(.int f0), (.int f2), (.int f2), (.int f3), (.int f4), (iI 0), (iI 0), (iI 0)]) :: (ol, Own.ArrC Z .int [(iI 0), (iI 0), (iI 0), (iI 0), (iI 0), (iI 0), (iI 0), (iI 0)]) :: (ok, Own.ArrC Z .long [(jJ 0), (jJ 0), (jJ 0), (jJ 0)]) :: (o0, WEo Z (.ref op) (.ref oc) (.ref of') (.ref ol) (.ref a3) (iI 0) (iI 2) (iI 0) (iI 0)) :: (oc, Own.ArrC Z .int [(iI 2), (iI 3), (iI 1), (iI 1), (iI 1), (iI 0), (iI 0), (iI 0)]) :: fr) := O402.pick 5 rfl
          exact Own.retV hx hret hlk (hb hby d11_208) (by decide) (by decide) ⟨[2, 3, 1, 1, 1, 0, 0, 0], (2 : Int32), a3, rfl, by rw [show dif f0 f1 = 0 from by rw [dif, if_pos hc30], show dif f1 f2 = 1 from by rw [← hc30, dif, if_neg hc286], show dif f2 f3 = 0 from by rw [dif, if_pos hc301], show dif f3 f4 = 0 from by rw [← hc301, dif, if_pos hc365]]; decide +kernel, O403.tail.tail.tail.tail⟩
    · refine Own.aloadN hx (.ref o0) (hb hby d11_117) rfl rfl rfl ?_
      refine Own.getfield hx hZ hown O283 1 1 rfl rfl (hw _ (wm 36 rfl)) (hb hby d11_118) rfl ?_
      refine Own.iloadN hx (1 : Int32) (hb hby d11_121) rfl rfl ?_
      refine Own.iconst hx (1 : Int32) (hb hby d11_122) rfl (by decide) ?_
      refine Own.isub hx (hb hby d11_123) rfl ?_
      refine Own.vI (0 : Int32) (by decide) ?_
      refine Own.dup2 hx (hb hby d11_124) rfl rfl rfl ?_
      refine Own.iaload hx hZ O283 2 0 rfl (by decide) (v := (.int (2 : Int32))) rfl (hb hby d11_125) rfl ?_
      refine Own.iload hx (1 : Int32) (hb hby d11_126) rfl rfl ?_
      refine Own.iadd hx (hb hby d11_128) rfl ?_
      refine Own.vI (3 : Int32) (by decide) ?_
      refine Own.iastore hx hZ O283 2 0 rfl (by decide) (by exact (show 0 < 8 by decide)) ((a3, Own.ArrC Z .long [(jJ 0), (jJ 4294967297), (jJ 8589934594), (jJ 0), (jJ 0), (jJ 0), (jJ 0), (jJ 0), (jJ 0), (jJ 0)]) :: (o0, WEo Z (.ref op) (.ref oc) (.ref of') (.ref ol) (.ref a3) (iI 0) (iI 5) (iI 0) (iI 0)) :: (oc, Own.ArrC Z .int [(iI 3), (iI 1), (iI 1), (iI 1), (iI 1), (iI 0), (iI 0), (iI 0)]) :: (of', Own.ArrC Z .int [(.int f0), (.int f1), (.int f2), (.int f3), (.int f4), (iI 0), (iI 0), (iI 0)]) :: (ol, Own.ArrC Z .int [(iI 0), (iI 0), (iI 0), (iI 0), (iI 0), (iI 0), (iI 0), (iI 0)]) :: (ok, Own.ArrC Z .long [(jJ 0), (jJ 0), (jJ 0), (jJ 0)]) :: fr) rfl (hb hby d11_129) rfl ?_
      intro h404 O405
      refine Own.goto hx (hb hby d11_130) (by decide) (pc' := 165) rfl ?_
      refine Own.iload hx (2 : Int32) (hb hby d11_165) rfl rfl ?_
      refine Own.iload hx (1 : Int32) (hb hby d11_167) rfl rfl ?_
      refine Own.iadd hx (hb hby d11_169) rfl ?_
      refine Own.vI (3 : Int32) (by decide) ?_
      refine Own.istore hx (3 : Int32) rfl #[.val (.ref o0), .val (.int (0 : Int32)), .val (.int (3 : Int32)), .val (.int (1 : Int32)), .val (.int (3 : Int32)), .val (.int (0 : Int32)), .val (.int (2 : Int32)), .val (.int (1 : Int32)), .val (.int f2)] (hb hby d11_170) rfl rfl ?_
      refine Own.iinc hx (3 : Int32) #[.val (.ref o0), .val (.int (0 : Int32)), .val (.int (3 : Int32)), .val (.int (1 : Int32)), .val (.int (3 : Int32)), .val (.int (0 : Int32)), .val (.int (3 : Int32)), .val (.int (1 : Int32)), .val (.int f2)] (hb hby d11_172) rfl rfl (by decide) rfl ?_
      refine Own.goto hx (hb hby d11_175) (by decide) (pc' := 37) rfl ?_
      refine Own.iload hx (3 : Int32) (hb hby d11_37) rfl rfl ?_
      refine Own.aloadN hx (.ref o0) (hb hby d11_39) rfl rfl rfl ?_
      refine Own.getfield hx hZ hown O405 1 6 rfl rfl (hw _ (wm 55 rfl)) (hb hby d11_40) rfl ?_
      have hc406 : (3 : Int32) < (5 : Int32) := by decide
      refine Own.icmpFn hx (Own.q_ge (3 : Int32) (5 : Int32)) (hb hby d11_43) (pcN := 46) rfl (by decide) (pcT := 178) rfl (fun q => absurd hc406 q) (fun _ => ?_)
      refine Own.aloadN hx (.ref o0) (hb hby d11_46) rfl rfl rfl ?_
      refine Own.getfield hx hZ hown O405 1 1 rfl rfl (hw _ (wm 36 rfl)) (hb hby d11_47) rfl ?_
      refine Own.iload hx (3 : Int32) (hb hby d11_50) rfl rfl ?_
      refine Own.iaload hx hZ O405 2 3 rfl (by decide) (v := (.int (1 : Int32))) rfl (hb hby d11_52) rfl ?_
      refine Own.istore hx (1 : Int32) rfl #[.val (.ref o0), .val (.int (0 : Int32)), .val (.int (3 : Int32)), .val (.int (1 : Int32)), .val (.int (3 : Int32)), .val (.int (0 : Int32)), .val (.int (3 : Int32)), .val (.int (1 : Int32)), .val (.int f2)] (hb hby d11_53) rfl rfl ?_
      refine Own.aloadN hx (.ref o0) (hb hby d11_55) rfl rfl rfl ?_
      refine Own.getfield hx hZ hown O405 1 2 rfl rfl (hw _ (wm 38 rfl)) (hb hby d11_56) rfl ?_
      refine Own.iload hx (3 : Int32) (hb hby d11_59) rfl rfl ?_
      refine Own.iaload hx hZ O405 3 3 rfl (by decide) (v := (.int f3)) rfl (hb hby d11_61) rfl ?_
      refine Own.istore hx f3 rfl #[.val (.ref o0), .val (.int (0 : Int32)), .val (.int (3 : Int32)), .val (.int (1 : Int32)), .val (.int (3 : Int32)), .val (.int (0 : Int32)), .val (.int (3 : Int32)), .val (.int (1 : Int32)), .val (.int f3)] (hb hby d11_62) rfl rfl ?_
      refine Own.iload hx f3 (hb hby d11_64) rfl rfl ?_
      refine Own.iloadN hx (0 : Int32) (hb hby d11_66) rfl rfl ?_
      have hc408 : ¬ (f3 = (0 : Int32)) := hz3
      refine Own.icmpFn hx (Own.q_ne f3 (0 : Int32)) (hb hby d11_67) (pcN := 70) rfl (by decide) (pcT := 76) rfl (fun _ => ?_) (fun q => absurd q hc408)
      refine Own.aloadN hx (.ref o0) (hb hby d11_76) rfl rfl rfl ?_
      refine Own.getfield hx hZ hown O405 1 4 rfl rfl (hw _ (wm 42 rfl)) (hb hby d11_77) rfl ?_
      refine Own.iloadN hx (3 : Int32) (hb hby d11_80) rfl rfl ?_
      refine Own.iinc hx (4 : Int32) #[.val (.ref o0), .val (.int (0 : Int32)), .val (.int (4 : Int32)), .val (.int (1 : Int32)), .val (.int (3 : Int32)), .val (.int (0 : Int32)), .val (.int (3 : Int32)), .val (.int (1 : Int32)), .val (.int f3)] (hb hby d11_81) rfl rfl (by decide) rfl ?_
      refine Own.iload hx (3 : Int32) (hb hby d11_84) rfl rfl ?_
      refine Own.i2l hx (hb hby d11_86) rfl ?_
      refine Own.vL (3 : Int64) (by decide) ?_
      refine Own.bipush hx (32 : Int32) (hb hby d11_87) rfl (by decide) ?_
      refine Own.lshl hx (hb hby d11_89) rfl ?_
      refine Own.vL (12884901888 : Int64) (by decide) ?_
      refine Own.iload hx (3 : Int32) (hb hby d11_90) rfl rfl ?_
      refine Own.iload hx (1 : Int32) (hb hby d11_92) rfl rfl ?_
      refine Own.iadd hx (hb hby d11_94) rfl ?_
      refine Own.vI (4 : Int32) (by decide) ?_
      refine Own.iconst hx (1 : Int32) (hb hby d11_95) rfl (by decide) ?_
      refine Own.isub hx (hb hby d11_96) rfl ?_
      refine Own.vI (3 : Int32) (by decide) ?_
      refine Own.i2l hx (hb hby d11_97) rfl ?_
      refine Own.vL (3 : Int64) (by decide) ?_
      refine Own.lor hx (hb hby d11_98) rfl ?_
      refine Own.vL (12884901891 : Int64) (by decide) ?_
      refine Own.lastore hx hZ O405 0 3 rfl (by decide) (by exact (show 3 < 10 by decide)) ((a3, Own.ArrC Z .long [(jJ 0), (jJ 4294967297), (jJ 8589934594), (jJ 12884901891), (jJ 0), (jJ 0), (jJ 0), (jJ 0), (jJ 0), (jJ 0)]) :: (o0, WEo Z (.ref op) (.ref oc) (.ref of') (.ref ol) (.ref a3) (iI 0) (iI 5) (iI 0) (iI 0)) :: (oc, Own.ArrC Z .int [(iI 3), (iI 1), (iI 1), (iI 1), (iI 1), (iI 0), (iI 0), (iI 0)]) :: (of', Own.ArrC Z .int [(.int f0), (.int f1), (.int f2), (.int f3), (.int f4), (iI 0), (iI 0), (iI 0)]) :: (ol, Own.ArrC Z .int [(iI 0), (iI 0), (iI 0), (iI 0), (iI 0), (iI 0), (iI 0), (iI 0)]) :: (ok, Own.ArrC Z .long [(jJ 0), (jJ 0), (jJ 0), (jJ 0)]) :: fr) rfl (hb hby d11_99) rfl ?_
      intro h410 O411
      refine Own.iloadN hx (1 : Int32) (hb hby d11_100) rfl rfl ?_
      have hc412 : (0 : Int32) < (1 : Int32) := by decide
      refine Own.ifFn hx (Own.z_le (1 : Int32)) (hb hby d11_101) (pcN := 104) rfl (by decide) (pcT := 133) rfl (fun q => absurd hc412 q) (fun _ => ?_)
      refine Own.aloadN hx (.ref o0) (hb hby d11_104) rfl rfl rfl ?_
      refine Own.getfield hx hZ hown O411 1 2 rfl rfl (hw _ (wm 38 rfl)) (hb hby d11_105) rfl ?_
      refine Own.iloadN hx (1 : Int32) (hb hby d11_108) rfl rfl ?_
      refine Own.iconst hx (1 : Int32) (hb hby d11_109) rfl (by decide) ?_
      refine Own.isub hx (hb hby d11_110) rfl ?_
      refine Own.vI (0 : Int32) (by decide) ?_
      refine Own.iaload hx hZ O411 3 0 rfl (by decide) (v := (.int f0)) rfl (hb hby d11_111) rfl ?_
      refine Own.iload hx f3 (hb hby d11_112) rfl rfl ?_
      refine Own.icmpFn hx (Own.q_ne f0 f3) (hb hby d11_114) (pcN := 117) rfl (by decide) (pcT := 133) rfl (fun hc414 => ?_) (fun hc414 => ?_)
      · refine Own.aloadN hx (.ref o0) (hb hby d11_133) rfl rfl rfl ?_
        refine Own.getfield hx hZ hown O411 1 1 rfl rfl (hw _ (wm 36 rfl)) (hb hby d11_134) rfl ?_
        refine Own.iloadN hx (1 : Int32) (hb hby d11_137) rfl rfl ?_
        refine Own.iload hx (1 : Int32) (hb hby d11_138) rfl rfl ?_
        refine Own.iastore hx hZ O411 2 1 rfl (by decide) (by exact (show 1 < 8 by decide)) ((a3, Own.ArrC Z .long [(jJ 0), (jJ 4294967297), (jJ 8589934594), (jJ 12884901891), (jJ 0), (jJ 0), (jJ 0), (jJ 0), (jJ 0), (jJ 0)]) :: (o0, WEo Z (.ref op) (.ref oc) (.ref of') (.ref ol) (.ref a3) (iI 0) (iI 5) (iI 0) (iI 0)) :: (oc, Own.ArrC Z .int [(iI 3), (iI 1), (iI 1), (iI 1), (iI 1), (iI 0), (iI 0), (iI 0)]) :: (of', Own.ArrC Z .int [(.int f0), (.int f1), (.int f2), (.int f3), (.int f4), (iI 0), (iI 0), (iI 0)]) :: (ol, Own.ArrC Z .int [(iI 0), (iI 0), (iI 0), (iI 0), (iI 0), (iI 0), (iI 0), (iI 0)]) :: (ok, Own.ArrC Z .long [(jJ 0), (jJ 0), (jJ 0), (jJ 0)]) :: fr) rfl (hb hby d11_140) rfl ?_
        intro h415 O416
        refine Own.aloadN hx (.ref o0) (hb hby d11_141) rfl rfl rfl ?_
        refine Own.getfield hx hZ hown O416 1 2 rfl rfl (hw _ (wm 38 rfl)) (hb hby d11_142) rfl ?_
        refine Own.iloadN hx (1 : Int32) (hb hby d11_145) rfl rfl ?_
        refine Own.iload hx f3 (hb hby d11_146) rfl rfl ?_
        refine Own.iastore hx hZ O416 3 1 rfl (by decide) (by exact (show 1 < 8 by decide)) ((a3, Own.ArrC Z .long [(jJ 0), (jJ 4294967297), (jJ 8589934594), (jJ 12884901891), (jJ 0), (jJ 0), (jJ 0), (jJ 0), (jJ 0), (jJ 0)]) :: (o0, WEo Z (.ref op) (.ref oc) (.ref of') (.ref ol) (.ref a3) (iI 0) (iI 5) (iI 0) (iI 0)) :: (oc, Own.ArrC Z .int [(iI 3), (iI 1), (iI 1), (iI 1), (iI 1), (iI 0), (iI 0), (iI 0)]) :: (of', Own.ArrC Z .int [(.int f0), (.int f3), (.int f2), (.int f3), (.int f4), (iI 0), (iI 0), (iI 0)]) :: (ol, Own.ArrC Z .int [(iI 0), (iI 0), (iI 0), (iI 0), (iI 0), (iI 0), (iI 0), (iI 0)]) :: (ok, Own.ArrC Z .long [(jJ 0), (jJ 0), (jJ 0), (jJ 0)]) :: fr) rfl (hb hby d11_148) rfl ?_
        intro h417 O418
        refine Own.aloadN hx (.ref o0) (hb hby d11_149) rfl rfl rfl ?_
        refine Own.getfield hx hZ hown O418 1 3 rfl rfl (hw _ (wm 40 rfl)) (hb hby d11_150) rfl ?_
        refine Own.iloadN hx (1 : Int32) (hb hby d11_153) rfl rfl ?_
        refine Own.iinc hx (2 : Int32) #[.val (.ref o0), .val (.int (0 : Int32)), .val (.int (4 : Int32)), .val (.int (2 : Int32)), .val (.int (3 : Int32)), .val (.int (0 : Int32)), .val (.int (3 : Int32)), .val (.int (1 : Int32)), .val (.int f3)] (hb hby d11_154) rfl rfl (by decide) rfl ?_
        refine Own.aloadN hx (.ref o0) (hb hby d11_157) rfl rfl rfl ?_
        refine Own.getfield hx hZ hown O418 1 3 rfl rfl (hw _ (wm 40 rfl)) (hb hby d11_158) rfl ?_
        refine Own.iload hx (3 : Int32) (hb hby d11_161) rfl rfl ?_
        refine Own.iaload hx hZ O418 4 3 rfl (by decide) (v := (.int (0 : Int32))) rfl (hb hby d11_163) rfl ?_
        refine Own.iastore hx hZ O418 4 1 rfl (by decide) (by exact (show 1 < 8 by decide)) ((a3, Own.ArrC Z .long [(jJ 0), (jJ 4294967297), (jJ 8589934594), (jJ 12884901891), (jJ 0), (jJ 0), (jJ 0), (jJ 0), (jJ 0), (jJ 0)]) :: (o0, WEo Z (.ref op) (.ref oc) (.ref of') (.ref ol) (.ref a3) (iI 0) (iI 5) (iI 0) (iI 0)) :: (oc, Own.ArrC Z .int [(iI 3), (iI 1), (iI 1), (iI 1), (iI 1), (iI 0), (iI 0), (iI 0)]) :: (of', Own.ArrC Z .int [(.int f0), (.int f3), (.int f2), (.int f3), (.int f4), (iI 0), (iI 0), (iI 0)]) :: (ol, Own.ArrC Z .int [(iI 0), (iI 0), (iI 0), (iI 0), (iI 0), (iI 0), (iI 0), (iI 0)]) :: (ok, Own.ArrC Z .long [(jJ 0), (jJ 0), (jJ 0), (jJ 0)]) :: fr) rfl (hb hby d11_164) rfl ?_
        intro h419 O420
        refine Own.iload hx (3 : Int32) (hb hby d11_165) rfl rfl ?_
        refine Own.iload hx (1 : Int32) (hb hby d11_167) rfl rfl ?_
        refine Own.iadd hx (hb hby d11_169) rfl ?_
        refine Own.vI (4 : Int32) (by decide) ?_
        refine Own.istore hx (4 : Int32) rfl #[.val (.ref o0), .val (.int (0 : Int32)), .val (.int (4 : Int32)), .val (.int (2 : Int32)), .val (.int (4 : Int32)), .val (.int (0 : Int32)), .val (.int (3 : Int32)), .val (.int (1 : Int32)), .val (.int f3)] (hb hby d11_170) rfl rfl ?_
        refine Own.iinc hx (4 : Int32) #[.val (.ref o0), .val (.int (0 : Int32)), .val (.int (4 : Int32)), .val (.int (2 : Int32)), .val (.int (4 : Int32)), .val (.int (0 : Int32)), .val (.int (4 : Int32)), .val (.int (1 : Int32)), .val (.int f3)] (hb hby d11_172) rfl rfl (by decide) rfl ?_
        refine Own.goto hx (hb hby d11_175) (by decide) (pc' := 37) rfl ?_
        refine Own.iload hx (4 : Int32) (hb hby d11_37) rfl rfl ?_
        refine Own.aloadN hx (.ref o0) (hb hby d11_39) rfl rfl rfl ?_
        refine Own.getfield hx hZ hown O420 1 6 rfl rfl (hw _ (wm 55 rfl)) (hb hby d11_40) rfl ?_
        have hc421 : (4 : Int32) < (5 : Int32) := by decide
        refine Own.icmpFn hx (Own.q_ge (4 : Int32) (5 : Int32)) (hb hby d11_43) (pcN := 46) rfl (by decide) (pcT := 178) rfl (fun q => absurd hc421 q) (fun _ => ?_)
        refine Own.aloadN hx (.ref o0) (hb hby d11_46) rfl rfl rfl ?_
        refine Own.getfield hx hZ hown O420 1 1 rfl rfl (hw _ (wm 36 rfl)) (hb hby d11_47) rfl ?_
        refine Own.iload hx (4 : Int32) (hb hby d11_50) rfl rfl ?_
        refine Own.iaload hx hZ O420 2 4 rfl (by decide) (v := (.int (1 : Int32))) rfl (hb hby d11_52) rfl ?_
        refine Own.istore hx (1 : Int32) rfl #[.val (.ref o0), .val (.int (0 : Int32)), .val (.int (4 : Int32)), .val (.int (2 : Int32)), .val (.int (4 : Int32)), .val (.int (0 : Int32)), .val (.int (4 : Int32)), .val (.int (1 : Int32)), .val (.int f3)] (hb hby d11_53) rfl rfl ?_
        refine Own.aloadN hx (.ref o0) (hb hby d11_55) rfl rfl rfl ?_
        refine Own.getfield hx hZ hown O420 1 2 rfl rfl (hw _ (wm 38 rfl)) (hb hby d11_56) rfl ?_
        refine Own.iload hx (4 : Int32) (hb hby d11_59) rfl rfl ?_
        refine Own.iaload hx hZ O420 3 4 rfl (by decide) (v := (.int f4)) rfl (hb hby d11_61) rfl ?_
        refine Own.istore hx f4 rfl #[.val (.ref o0), .val (.int (0 : Int32)), .val (.int (4 : Int32)), .val (.int (2 : Int32)), .val (.int (4 : Int32)), .val (.int (0 : Int32)), .val (.int (4 : Int32)), .val (.int (1 : Int32)), .val (.int f4)] (hb hby d11_62) rfl rfl ?_
        refine Own.iload hx f4 (hb hby d11_64) rfl rfl ?_
        refine Own.iloadN hx (0 : Int32) (hb hby d11_66) rfl rfl ?_
        have hc423 : ¬ (f4 = (0 : Int32)) := hz4
        refine Own.icmpFn hx (Own.q_ne f4 (0 : Int32)) (hb hby d11_67) (pcN := 70) rfl (by decide) (pcT := 76) rfl (fun _ => ?_) (fun q => absurd q hc423)
        refine Own.aloadN hx (.ref o0) (hb hby d11_76) rfl rfl rfl ?_
        refine Own.getfield hx hZ hown O420 1 4 rfl rfl (hw _ (wm 42 rfl)) (hb hby d11_77) rfl ?_
        refine Own.iloadN hx (4 : Int32) (hb hby d11_80) rfl rfl ?_
        refine Own.iinc hx (5 : Int32) #[.val (.ref o0), .val (.int (0 : Int32)), .val (.int (5 : Int32)), .val (.int (2 : Int32)), .val (.int (4 : Int32)), .val (.int (0 : Int32)), .val (.int (4 : Int32)), .val (.int (1 : Int32)), .val (.int f4)] (hb hby d11_81) rfl rfl (by decide) rfl ?_
        refine Own.iload hx (4 : Int32) (hb hby d11_84) rfl rfl ?_
        refine Own.i2l hx (hb hby d11_86) rfl ?_
        refine Own.vL (4 : Int64) (by decide) ?_
        refine Own.bipush hx (32 : Int32) (hb hby d11_87) rfl (by decide) ?_
        refine Own.lshl hx (hb hby d11_89) rfl ?_
        refine Own.vL (17179869184 : Int64) (by decide) ?_
        refine Own.iload hx (4 : Int32) (hb hby d11_90) rfl rfl ?_
        refine Own.iload hx (1 : Int32) (hb hby d11_92) rfl rfl ?_
        refine Own.iadd hx (hb hby d11_94) rfl ?_
        refine Own.vI (5 : Int32) (by decide) ?_
        refine Own.iconst hx (1 : Int32) (hb hby d11_95) rfl (by decide) ?_
        refine Own.isub hx (hb hby d11_96) rfl ?_
        refine Own.vI (4 : Int32) (by decide) ?_
        refine Own.i2l hx (hb hby d11_97) rfl ?_
        refine Own.vL (4 : Int64) (by decide) ?_
        refine Own.lor hx (hb hby d11_98) rfl ?_
        refine Own.vL (17179869188 : Int64) (by decide) ?_
        refine Own.lastore hx hZ O420 0 4 rfl (by decide) (by exact (show 4 < 10 by decide)) ((a3, Own.ArrC Z .long [(jJ 0), (jJ 4294967297), (jJ 8589934594), (jJ 12884901891), (jJ 17179869188), (jJ 0), (jJ 0), (jJ 0), (jJ 0), (jJ 0)]) :: (o0, WEo Z (.ref op) (.ref oc) (.ref of') (.ref ol) (.ref a3) (iI 0) (iI 5) (iI 0) (iI 0)) :: (oc, Own.ArrC Z .int [(iI 3), (iI 1), (iI 1), (iI 1), (iI 1), (iI 0), (iI 0), (iI 0)]) :: (of', Own.ArrC Z .int [(.int f0), (.int f3), (.int f2), (.int f3), (.int f4), (iI 0), (iI 0), (iI 0)]) :: (ol, Own.ArrC Z .int [(iI 0), (iI 0), (iI 0), (iI 0), (iI 0), (iI 0), (iI 0), (iI 0)]) :: (ok, Own.ArrC Z .long [(jJ 0), (jJ 0), (jJ 0), (jJ 0)]) :: fr) rfl (hb hby d11_99) rfl ?_
        intro h425 O426
        refine Own.iloadN hx (2 : Int32) (hb hby d11_100) rfl rfl ?_
        have hc427 : (0 : Int32) < (2 : Int32) := by decide
        refine Own.ifFn hx (Own.z_le (2 : Int32)) (hb hby d11_101) (pcN := 104) rfl (by decide) (pcT := 133) rfl (fun q => absurd hc427 q) (fun _ => ?_)
        refine Own.aloadN hx (.ref o0) (hb hby d11_104) rfl rfl rfl ?_
        refine Own.getfield hx hZ hown O426 1 2 rfl rfl (hw _ (wm 38 rfl)) (hb hby d11_105) rfl ?_
        refine Own.iloadN hx (2 : Int32) (hb hby d11_108) rfl rfl ?_
        refine Own.iconst hx (1 : Int32) (hb hby d11_109) rfl (by decide) ?_
        refine Own.isub hx (hb hby d11_110) rfl ?_
        refine Own.vI (1 : Int32) (by decide) ?_
        refine Own.iaload hx hZ O426 3 1 rfl (by decide) (v := (.int f3)) rfl (hb hby d11_111) rfl ?_
        refine Own.iload hx f4 (hb hby d11_112) rfl rfl ?_
        refine Own.icmpFn hx (Own.q_ne f3 f4) (hb hby d11_114) (pcN := 117) rfl (by decide) (pcT := 133) rfl (fun hc429 => ?_) (fun hc429 => ?_)
        · refine Own.aloadN hx (.ref o0) (hb hby d11_133) rfl rfl rfl ?_
          refine Own.getfield hx hZ hown O426 1 1 rfl rfl (hw _ (wm 36 rfl)) (hb hby d11_134) rfl ?_
          refine Own.iloadN hx (2 : Int32) (hb hby d11_137) rfl rfl ?_
          refine Own.iload hx (1 : Int32) (hb hby d11_138) rfl rfl ?_
          refine Own.iastore hx hZ O426 2 2 rfl (by decide) (by exact (show 2 < 8 by decide)) ((a3, Own.ArrC Z .long [(jJ 0), (jJ 4294967297), (jJ 8589934594), (jJ 12884901891), (jJ 17179869188), (jJ 0), (jJ 0), (jJ 0), (jJ 0), (jJ 0)]) :: (o0, WEo Z (.ref op) (.ref oc) (.ref of') (.ref ol) (.ref a3) (iI 0) (iI 5) (iI 0) (iI 0)) :: (oc, Own.ArrC Z .int [(iI 3), (iI 1), (iI 1), (iI 1), (iI 1), (iI 0), (iI 0), (iI 0)]) :: (of', Own.ArrC Z .int [(.int f0), (.int f3), (.int f2), (.int f3), (.int f4), (iI 0), (iI 0), (iI 0)]) :: (ol, Own.ArrC Z .int [(iI 0), (iI 0), (iI 0), (iI 0), (iI 0), (iI 0), (iI 0), (iI 0)]) :: (ok, Own.ArrC Z .long [(jJ 0), (jJ 0), (jJ 0), (jJ 0)]) :: fr) rfl (hb hby d11_140) rfl ?_
          intro h430 O431
          refine Own.aloadN hx (.ref o0) (hb hby d11_141) rfl rfl rfl ?_
          refine Own.getfield hx hZ hown O431 1 2 rfl rfl (hw _ (wm 38 rfl)) (hb hby d11_142) rfl ?_
          refine Own.iloadN hx (2 : Int32) (hb hby d11_145) rfl rfl ?_
          refine Own.iload hx f4 (hb hby d11_146) rfl rfl ?_
          refine Own.iastore hx hZ O431 3 2 rfl (by decide) (by exact (show 2 < 8 by decide)) ((a3, Own.ArrC Z .long [(jJ 0), (jJ 4294967297), (jJ 8589934594), (jJ 12884901891), (jJ 17179869188), (jJ 0), (jJ 0), (jJ 0), (jJ 0), (jJ 0)]) :: (o0, WEo Z (.ref op) (.ref oc) (.ref of') (.ref ol) (.ref a3) (iI 0) (iI 5) (iI 0) (iI 0)) :: (oc, Own.ArrC Z .int [(iI 3), (iI 1), (iI 1), (iI 1), (iI 1), (iI 0), (iI 0), (iI 0)]) :: (of', Own.ArrC Z .int [(.int f0), (.int f3), (.int f4), (.int f3), (.int f4), (iI 0), (iI 0), (iI 0)]) :: (ol, Own.ArrC Z .int [(iI 0), (iI 0), (iI 0), (iI 0), (iI 0), (iI 0), (iI 0), (iI 0)]) :: (ok, Own.ArrC Z .long [(jJ 0), (jJ 0), (jJ 0), (jJ 0)]) :: fr) rfl (hb hby d11_148) rfl ?_
          intro h432 O433
          refine Own.aloadN hx (.ref o0) (hb hby d11_149) rfl rfl rfl ?_
          refine Own.getfield hx hZ hown O433 1 3 rfl rfl (hw _ (wm 40 rfl)) (hb hby d11_150) rfl ?_
          refine Own.iloadN hx (2 : Int32) (hb hby d11_153) rfl rfl ?_
          refine Own.iinc hx (3 : Int32) #[.val (.ref o0), .val (.int (0 : Int32)), .val (.int (5 : Int32)), .val (.int (3 : Int32)), .val (.int (4 : Int32)), .val (.int (0 : Int32)), .val (.int (4 : Int32)), .val (.int (1 : Int32)), .val (.int f4)] (hb hby d11_154) rfl rfl (by decide) rfl ?_
          refine Own.aloadN hx (.ref o0) (hb hby d11_157) rfl rfl rfl ?_
          refine Own.getfield hx hZ hown O433 1 3 rfl rfl (hw _ (wm 40 rfl)) (hb hby d11_158) rfl ?_
          refine Own.iload hx (4 : Int32) (hb hby d11_161) rfl rfl ?_
          refine Own.iaload hx hZ O433 4 4 rfl (by decide) (v := (.int (0 : Int32))) rfl (hb hby d11_163) rfl ?_
          refine Own.iastore hx hZ O433 4 2 rfl (by decide) (by exact (show 2 < 8 by decide)) ((a3, Own.ArrC Z .long [(jJ 0), (jJ 4294967297), (jJ 8589934594), (jJ 12884901891), (jJ 17179869188), (jJ 0), (jJ 0), (jJ 0), (jJ 0), (jJ 0)]) :: (o0, WEo Z (.ref op) (.ref oc) (.ref of') (.ref ol) (.ref a3) (iI 0) (iI 5) (iI 0) (iI 0)) :: (oc, Own.ArrC Z .int [(iI 3), (iI 1), (iI 1), (iI 1), (iI 1), (iI 0), (iI 0), (iI 0)]) :: (of', Own.ArrC Z .int [(.int f0), (.int f3), (.int f4), (.int f3), (.int f4), (iI 0), (iI 0), (iI 0)]) :: (ol, Own.ArrC Z .int [(iI 0), (iI 0), (iI 0), (iI 0), (iI 0), (iI 0), (iI 0), (iI 0)]) :: (ok, Own.ArrC Z .long [(jJ 0), (jJ 0), (jJ 0), (jJ 0)]) :: fr) rfl (hb hby d11_164) rfl ?_
          intro h434 O435
          refine Own.iload hx (4 : Int32) (hb hby d11_165) rfl rfl ?_
          refine Own.iload hx (1 : Int32) (hb hby d11_167) rfl rfl ?_
          refine Own.iadd hx (hb hby d11_169) rfl ?_
          refine Own.vI (5 : Int32) (by decide) ?_
          refine Own.istore hx (5 : Int32) rfl #[.val (.ref o0), .val (.int (0 : Int32)), .val (.int (5 : Int32)), .val (.int (3 : Int32)), .val (.int (5 : Int32)), .val (.int (0 : Int32)), .val (.int (4 : Int32)), .val (.int (1 : Int32)), .val (.int f4)] (hb hby d11_170) rfl rfl ?_
          refine Own.iinc hx (5 : Int32) #[.val (.ref o0), .val (.int (0 : Int32)), .val (.int (5 : Int32)), .val (.int (3 : Int32)), .val (.int (5 : Int32)), .val (.int (0 : Int32)), .val (.int (5 : Int32)), .val (.int (1 : Int32)), .val (.int f4)] (hb hby d11_172) rfl rfl (by decide) rfl ?_
          refine Own.goto hx (hb hby d11_175) (by decide) (pc' := 37) rfl ?_
          refine Own.iload hx (5 : Int32) (hb hby d11_37) rfl rfl ?_
          refine Own.aloadN hx (.ref o0) (hb hby d11_39) rfl rfl rfl ?_
          refine Own.getfield hx hZ hown O435 1 6 rfl rfl (hw _ (wm 55 rfl)) (hb hby d11_40) rfl ?_
          have hc436 : ¬ ((5 : Int32) < (5 : Int32)) := by decide
          refine Own.icmpFn hx (Own.q_ge (5 : Int32) (5 : Int32)) (hb hby d11_43) (pcN := 46) rfl (by decide) (pcT := 178) rfl (fun _ => ?_) (fun q => absurd q hc436)
          refine Own.iload hx (0 : Int32) (hb hby d11_178) rfl rfl ?_
          have hc438 : (0 : Int32) = (0 : Int32) := by decide
          refine Own.ifF hx (Own.z_eq (0 : Int32)) (hb hby d11_180) (pcN := 183) rfl (by decide) (pcT := 199) rfl (fun _ => ?_) (fun q => absurd hc438 q)
          refine Own.aloadN hx (.ref o0) (hb hby d11_199) rfl rfl rfl ?_
          refine Own.iloadN hx (3 : Int32) (hb hby d11_200) rfl rfl ?_
          refine Own.putfield hx hZ hown O435 1 6 rfl rfl (hw _ (wm 55 rfl)) (Or.inl (hw _ (wm 56 rfl))) (hw _ (wm 2 rfl)) (ty := .int) (by decide) rfl rfl ((a3, Own.ArrC Z .long [(jJ 0), (jJ 4294967297), (jJ 8589934594), (jJ 12884901891), (jJ 17179869188), (jJ 0), (jJ 0), (jJ 0), (jJ 0), (jJ 0)]) :: (o0, WEo Z (.ref op) (.ref oc) (.ref of') (.ref ol) (.ref a3) (iI 0) (iI 3) (iI 0) (iI 0)) :: (oc, Own.ArrC Z .int [(iI 3), (iI 1), (iI 1), (iI 1), (iI 1), (iI 0), (iI 0), (iI 0)]) :: (of', Own.ArrC Z .int [(.int f0), (.int f3), (.int f4), (.int f3), (.int f4), (iI 0), (iI 0), (iI 0)]) :: (ol, Own.ArrC Z .int [(iI 0), (iI 0), (iI 0), (iI 0), (iI 0), (iI 0), (iI 0), (iI 0)]) :: (ok, Own.ArrC Z .long [(jJ 0), (jJ 0), (jJ 0), (jJ 0)]) :: fr) rfl (hb hby d11_201) rfl ?_
          intro h440 O441
          refine Own.aloadN hx (.ref o0) (hb hby d11_204) rfl rfl rfl ?_
          have O442 : Own.Owns n0 h440 ((o0, WEo Z (.ref op) (.ref oc) (.ref of') (.ref ol) (.ref a3) (iI 0) (iI 3) (iI 0) (iI 0)) :: (a3, Own.ArrC Z .long [(jJ 0), (jJ 4294967297), (jJ 8589934594), (jJ 12884901891), (jJ 17179869188), (jJ 0), (jJ 0), (jJ 0), (jJ 0), (jJ 0)]) :: (oc, Own.ArrC Z .int [(iI 3), (iI 1), (iI 1), (iI 1), (iI 1), (iI 0), (iI 0), (iI 0)]) :: (of', Own.ArrC Z .int [(.int f0), (.int f3), (.int f4), (.int f3), (.int f4), (iI 0), (iI 0), (iI 0)]) :: (ol, Own.ArrC Z .int [(iI 0), (iI 0), (iI 0), (iI 0), (iI 0), (iI 0), (iI 0), (iI 0)]) :: (ok, Own.ArrC Z .long [(jJ 0), (jJ 0), (jJ 0), (jJ 0)]) :: fr) := O441.pick 1 rfl
          refine Own.callP hx hZ hown (O442.exa (i := 0) rfl) (hw _ (wm 90 rfl)) (hw _ (wm 91 rfl)) (hw _ (wm 2 rfl)) (hw _ (wm 92 rfl)) (hw _ (wm 3 rfl)) (hw _ (wm 93 rfl)) (by decide) pd0 (argsL := []) (rest := []) rfl (W := 0) (Nat.le_of_eq rfl) (rm := ({ frames := 0, cells := 0, slots := 0, locals := 0 } : Room)) (by decide) (by decide) (by decide) (by decide) (k' := 1) (n' := 10) rfl rfl (by rw [hml]; rfl) [(.ref o0)] rfl (hb hby d11_205) (pc' := 208) rfl (rm12 l Z a0 hw o0 h440 n0 op oc of' ol a3 (3 : Int32) (0 : Int32) (0 : Int32) ((a3, Own.ArrC Z .long [(jJ 0), (jJ 4294967297), (jJ 8589934594), (jJ 12884901891), (jJ 17179869188), (jJ 0), (jJ 0), (jJ 0), (jJ 0), (jJ 0)]) :: (oc, Own.ArrC Z .int [(iI 3), (iI 1), (iI 1), (iI 1), (iI 1), (iI 0), (iI 0), (iI 0)]) :: (of', Own.ArrC Z .int [(.int f0), (.int f3), (.int f4), (.int f3), (.int f4), (iI 0), (iI 0), (iI 0)]) :: (ol, Own.ArrC Z .int [(iI 0), (iI 0), (iI 0), (iI 0), (iI 0), (iI 0), (iI 0), (iI 0)]) :: (ok, Own.ArrC Z .long [(jJ 0), (jJ 0), (jJ 0), (jJ 0)]) :: fr) O442) ?_
          rintro _ h443 ⟨rfl, O444⟩
          show Own.Goes _ _ _ _ _ _ _ _ _ _ _ _ _ _ _ _ _ (mkF m 208 #[.val (.ref o0), .val (.int (0 : Int32)), .val (.int (5 : Int32)), .val (.int (3 : Int32)), .val (.int (5 : Int32)), .val (.int (0 : Int32)), .val (.int (5 : Int32)), .val (.int (1 : Int32)), .val (.int f4)] [])
          have O445 : Own.Owns n0 h443 ((oc, Own.ArrC Z .int [(iI 3), (iI 1), (iI 1), (iI 1), (iI 1), (iI 0), (iI 0), (iI 0)]) :: (o0, WEo Z (.ref op) (.ref oc) (.ref of') (.ref ol) (.ref a3) (iI 0) (iI 3) (iI 0) (iI 0)) :: (a3, Own.ArrC Z .long [(jJ 0), (jJ 4294967297), (jJ 8589934594), (jJ 12884901891), (jJ 17179869188), (jJ 0), (jJ 0), (jJ 0), (jJ 0), (jJ 0)]) :: (of', Own.ArrC Z .int [(.int f0), (.int f3), (.int f4), (.int f3), (.int f4), (iI 0), (iI 0), (iI 0)]) :: (ol, Own.ArrC Z .int [(iI 0), (iI 0), (iI 0), (iI 0), (iI 0), (iI 0), (iI 0), (iI 0)]) :: (ok, Own.ArrC Z .long [(jJ 0), (jJ 0), (jJ 0), (jJ 0)]) :: fr) := O444.pick 2 rfl
          have O446 : Own.Owns n0 h443 ((o0, WEo Z (.ref op) (.ref oc) (.ref of') (.ref ol) (.ref a3) (iI 0) (iI 3) (iI 0) (iI 0)) :: (oc, Own.ArrC Z .int [(iI 3), (iI 1), (iI 1), (iI 1), (iI 1), (iI 0), (iI 0), (iI 0)]) :: (a3, Own.ArrC Z .long [(jJ 0), (jJ 4294967297), (jJ 8589934594), (jJ 12884901891), (jJ 17179869188), (jJ 0), (jJ 0), (jJ 0), (jJ 0), (jJ 0)]) :: (of', Own.ArrC Z .int [(.int f0), (.int f3), (.int f4), (.int f3), (.int f4), (iI 0), (iI 0), (iI 0)]) :: (ol, Own.ArrC Z .int [(iI 0), (iI 0), (iI 0), (iI 0), (iI 0), (iI 0), (iI 0), (iI 0)]) :: (ok, Own.ArrC Z .long [(jJ 0), (jJ 0), (jJ 0), (jJ 0)]) :: fr) := O445.pick 1 rfl
          have O447 : Own.Owns n0 h443 ((ok, Own.ArrC Z .long [(jJ 0), (jJ 0), (jJ 0), (jJ 0)]) :: (o0, WEo Z (.ref op) (.ref oc) (.ref of') (.ref ol) (.ref a3) (iI 0) (iI 3) (iI 0) (iI 0)) :: (oc, Own.ArrC Z .int [(iI 3), (iI 1), (iI 1), (iI 1), (iI 1), (iI 0), (iI 0), (iI 0)]) :: (a3, Own.ArrC Z .long [(jJ 0), (jJ 4294967297), (jJ 8589934594), (jJ 12884901891), (jJ 17179869188), (jJ 0), (jJ 0), (jJ 0), (jJ 0), (jJ 0)]) :: (of', Own.ArrC Z .int [(.int f0), (.int f3), (.int f4), (.int f3), (.int f4), (iI 0), (iI 0), (iI 0)]) :: (ol, Own.ArrC Z .int [(iI 0), (iI 0), (iI 0), (iI 0), (iI 0), (iI 0), (iI 0), (iI 0)]) :: fr) := O446.pick 5 rfl
          have O448 : Own.Owns n0 h443 ((ol, Own.ArrC Z .int [(iI 0), (iI 0), (iI 0), (iI 0), (iI 0), (iI 0), (iI 0), (iI 0)]) :: (ok, Own.ArrC Z .long [(jJ 0), (jJ 0), (jJ 0), (jJ 0)]) :: (o0, WEo Z (.ref op) (.ref oc) (.ref of') (.ref ol) (.ref a3) (iI 0) (iI 3) (iI 0) (iI 0)) :: (oc, Own.ArrC Z .int [(iI 3), (iI 1), (iI 1), (iI 1), (iI 1), (iI 0), (iI 0), (iI 0)]) :: (a3, Own.ArrC Z .long [(jJ 0), (jJ 4294967297), (jJ 8589934594), (jJ 12884901891), (jJ 17179869188), (jJ 0), (jJ 0), (jJ 0), (jJ 0), (jJ 0)]) :: (of', Own.ArrC Z .int [(.int f0), (.int f3), (.int f4), (.int f3), (.int f4), (iI 0), (iI 0), (iI 0)]) :: fr) := O447.pick 5 rfl
          have O449 : Own.Owns n0 h443 ((of', Own.ArrC Z .int [(.int f0), (.int f3), (.int f4), (.int f3), (.int f4), (iI 0), (iI 0), (iI 0)]) :: (ol, Own.ArrC Z .int [(iI 0), (iI 0), (iI 0), (iI 0), (iI 0), (iI 0), (iI 0), (iI 0)]) :: (ok, Own.ArrC Z .long [(jJ 0), (jJ 0), (jJ 0), (jJ 0)]) :: (o0, WEo Z (.ref op) (.ref oc) (.ref of') (.ref ol) (.ref a3) (iI 0) (iI 3) (iI 0) (iI 0)) :: (oc, Own.ArrC Z .int [(iI 3), (iI 1), (iI 1), (iI 1), (iI 1), (iI 0), (iI 0), (iI 0)]) :: (a3, Own.ArrC Z .long [(jJ 0), (jJ 4294967297), (jJ 8589934594), (jJ 12884901891), (jJ 17179869188), (jJ 0), (jJ 0), (jJ 0), (jJ 0), (jJ 0)]) :: fr) := O448.pick 5 rfl
          have O450 : Own.Owns n0 h443 ((a3, Own.ArrC Z .long [(jJ 0), (jJ 4294967297), (jJ 8589934594), (jJ 12884901891), (jJ 17179869188), (jJ 0), (jJ 0), (jJ 0), (jJ 0), (jJ 0)]) :: (of', Own.ArrC Z .int [(.int f0), (.int f3), (.int f4), (.int f3), (.int f4), (iI 0), (iI 0), (iI 0)]) :: (ol, Own.ArrC Z .int [(iI 0), (iI 0), (iI 0), (iI 0), (iI 0), (iI 0), (iI 0), (iI 0)]) :: (ok, Own.ArrC Z .long [(jJ 0), (jJ 0), (jJ 0), (jJ 0)]) :: (o0, WEo Z (.ref op) (.ref oc) (.ref of') (.ref ol) (.ref a3) (iI 0) (iI 3) (iI 0) (iI 0)) :: (oc, Own.ArrC Z .int [(iI 3), (iI 1), (iI 1), (iI 1), (iI 1), (iI 0), (iI 0), (iI 0)]) :: fr) := O449.pick 5 rfl
          exact Own.retV hx hret hlk (hb hby d11_208) (by decide) (by decide) ⟨[3, 1, 1, 1, 1, 0, 0, 0], (3 : Int32), a3, rfl, by rw [show dif f0 f1 = 0 from by rw [dif, if_pos hc30], show dif f1 f2 = 0 from by rw [← hc30, dif, if_pos hc286], show dif f2 f3 = 1 from by rw [← hc286, dif, if_neg hc414], show dif f3 f4 = 1 from by rw [dif, if_neg hc429]]; decide +kernel, O450.tail.tail.tail.tail⟩
        · refine Own.aloadN hx (.ref o0) (hb hby d11_117) rfl rfl rfl ?_
          refine Own.getfield hx hZ hown O426 1 1 rfl rfl (hw _ (wm 36 rfl)) (hb hby d11_118) rfl ?_
          refine Own.iloadN hx (2 : Int32) (hb hby d11_121) rfl rfl ?_
          refine Own.iconst hx (1 : Int32) (hb hby d11_122) rfl (by decide) ?_
          refine Own.isub hx (hb hby d11_123) rfl ?_
          refine Own.vI (1 : Int32) (by decide) ?_
          refine Own.dup2 hx (hb hby d11_124) rfl rfl rfl ?_
          refine Own.iaload hx hZ O426 2 1 rfl (by decide) (v := (.int (1 : Int32))) rfl (hb hby d11_125) rfl ?_
          refine Own.iload hx (1 : Int32) (hb hby d11_126) rfl rfl ?_
          refine Own.iadd hx (hb hby d11_128) rfl ?_
          refine Own.vI (2 : Int32) (by decide) ?_
          refine Own.iastore hx hZ O426 2 1 rfl (by decide) (by exact (show 1 < 8 by decide)) ((a3, Own.ArrC Z .long [(jJ 0), (jJ 4294967297), (jJ 8589934594), (jJ 12884901891), (jJ 17179869188), (jJ 0), (jJ 0), (jJ 0), (jJ 0), (jJ 0)]) :: (o0, WEo Z (.ref op) (.ref oc) (.ref of') (.ref ol) (.ref a3) (iI 0) (iI 5) (iI 0) (iI 0)) :: (oc, Own.ArrC Z .int [(iI 3), (iI 2), (iI 1), (iI 1), (iI 1), (iI 0), (iI 0), (iI 0)]) :: (of', Own.ArrC Z .int [(.int f0), (.int f3), (.int f2), (.int f3), (.int f4), (iI 0), (iI 0), (iI 0)]) :: (ol, Own.ArrC Z .int [(iI 0), (iI 0), (iI 0), (iI 0), (iI 0), (iI 0), (iI 0), (iI 0)]) :: (ok, Own.ArrC Z .long [(jJ 0), (jJ 0), (jJ 0), (jJ 0)]) :: fr) rfl (hb hby d11_129) rfl ?_
          intro h451 O452
          refine Own.goto hx (hb hby d11_130) (by decide) (pc' := 165) rfl ?_
          refine Own.iload hx (4 : Int32) (hb hby d11_165) rfl rfl ?_
          refine Own.iload hx (1 : Int32) (hb hby d11_167) rfl rfl ?_
          refine Own.iadd hx (hb hby d11_169) rfl ?_
          refine Own.vI (5 : Int32) (by decide) ?_
          refine Own.istore hx (5 : Int32) rfl #[.val (.ref o0), .val (.int (0 : Int32)), .val (.int (5 : Int32)), .val (.int (2 : Int32)), .val (.int (5 : Int32)), .val (.int (0 : Int32)), .val (.int (4 : Int32)), .val (.int (1 : Int32)), .val (.int f4)] (hb hby d11_170) rfl rfl ?_
          refine Own.iinc hx (5 : Int32) #[.val (.ref o0), .val (.int (0 : Int32)), .val (.int (5 : Int32)), .val (.int (2 : Int32)), .val (.int (5 : Int32)), .val (.int (0 : Int32)), .val (.int (5 : Int32)), .val (.int (1 : Int32)), .val (.int f4)] (hb hby d11_172) rfl rfl (by decide) rfl ?_
          refine Own.goto hx (hb hby d11_175) (by decide) (pc' := 37) rfl ?_
          refine Own.iload hx (5 : Int32) (hb hby d11_37) rfl rfl ?_
          refine Own.aloadN hx (.ref o0) (hb hby d11_39) rfl rfl rfl ?_
          refine Own.getfield hx hZ hown O452 1 6 rfl rfl (hw _ (wm 55 rfl)) (hb hby d11_40) rfl ?_
          have hc453 : ¬ ((5 : Int32) < (5 : Int32)) := by decide
          refine Own.icmpFn hx (Own.q_ge (5 : Int32) (5 : Int32)) (hb hby d11_43) (pcN := 46) rfl (by decide) (pcT := 178) rfl (fun _ => ?_) (fun q => absurd q hc453)
          refine Own.iload hx (0 : Int32) (hb hby d11_178) rfl rfl ?_
          have hc455 : (0 : Int32) = (0 : Int32) := by decide
          refine Own.ifF hx (Own.z_eq (0 : Int32)) (hb hby d11_180) (pcN := 183) rfl (by decide) (pcT := 199) rfl (fun _ => ?_) (fun q => absurd hc455 q)
          refine Own.aloadN hx (.ref o0) (hb hby d11_199) rfl rfl rfl ?_
          refine Own.iloadN hx (2 : Int32) (hb hby d11_200) rfl rfl ?_
          refine Own.putfield hx hZ hown O452 1 6 rfl rfl (hw _ (wm 55 rfl)) (Or.inl (hw _ (wm 56 rfl))) (hw _ (wm 2 rfl)) (ty := .int) (by decide) rfl rfl ((a3, Own.ArrC Z .long [(jJ 0), (jJ 4294967297), (jJ 8589934594), (jJ 12884901891), (jJ 17179869188), (jJ 0), (jJ 0), (jJ 0), (jJ 0), (jJ 0)]) :: (o0, WEo Z (.ref op) (.ref oc) (.ref of') (.ref ol) (.ref a3) (iI 0) (iI 2) (iI 0) (iI 0)) :: (oc, Own.ArrC Z .int [(iI 3), (iI 2), (iI 1), (iI 1), (iI 1), (iI 0), (iI 0), (iI 0)]) :: (of', Own.ArrC Z .int [(.int f0), (.int f3), (.int f2), (.int f3), (.int f4), (iI 0), (iI 0), (iI 0)]) :: (ol, Own.ArrC Z .int [(iI 0), (iI 0), (iI 0), (iI 0), (iI 0), (iI 0), (iI 0), (iI 0)]) :: (ok, Own.ArrC Z .long [(jJ 0), (jJ 0), (jJ 0), (jJ 0)]) :: fr) rfl (hb hby d11_201) rfl ?_
          intro h457 O458
          refine Own.aloadN hx (.ref o0) (hb hby d11_204) rfl rfl rfl ?_
          have O459 : Own.Owns n0 h457 ((o0, WEo Z (.ref op) (.ref oc) (.ref of') (.ref ol) (.ref a3) (iI 0) (iI 2) (iI 0) (iI 0)) :: (a3, Own.ArrC Z .long [(jJ 0), (jJ 4294967297), (jJ 8589934594), (jJ 12884901891), (jJ 17179869188), (jJ 0), (jJ 0), (jJ 0), (jJ 0), (jJ 0)]) :: (oc, Own.ArrC Z .int [(iI 3), (iI 2), (iI 1), (iI 1), (iI 1), (iI 0), (iI 0), (iI 0)]) :: (of', Own.ArrC Z .int [(.int f0), (.int f3), (.int f2), (.int f3), (.int f4), (iI 0), (iI 0), (iI 0)]) :: (ol, Own.ArrC Z .int [(iI 0), (iI 0), (iI 0), (iI 0), (iI 0), (iI 0), (iI 0), (iI 0)]) :: (ok, Own.ArrC Z .long [(jJ 0), (jJ 0), (jJ 0), (jJ 0)]) :: fr) := O458.pick 1 rfl
          refine Own.callP hx hZ hown (O459.exa (i := 0) rfl) (hw _ (wm 90 rfl)) (hw _ (wm 91 rfl)) (hw _ (wm 2 rfl)) (hw _ (wm 92 rfl)) (hw _ (wm 3 rfl)) (hw _ (wm 93 rfl)) (by decide) pd0 (argsL := []) (rest := []) rfl (W := 0) (Nat.le_of_eq rfl) (rm := ({ frames := 0, cells := 0, slots := 0, locals := 0 } : Room)) (by decide) (by decide) (by decide) (by decide) (k' := 1) (n' := 10) rfl rfl (by rw [hml]; rfl) [(.ref o0)] rfl (hb hby d11_205) (pc' := 208) rfl (rm12 l Z a0 hw o0 h457 n0 op oc of' ol a3 (2 : Int32) (0 : Int32) (0 : Int32) ((a3, Own.ArrC Z .long [(jJ 0), (jJ 4294967297), (jJ 8589934594), (jJ 12884901891), (jJ 17179869188), (jJ 0), (jJ 0), (jJ 0), (jJ 0), (jJ 0)]) :: (oc, Own.ArrC Z .int [(iI 3), (iI 2), (iI 1), (iI 1), (iI 1), (iI 0), (iI 0), (iI 0)]) :: (of', Own.ArrC Z .int [(.int f0), (.int f3), (.int f2), (.int f3), (.int f4), (iI 0), (iI 0), (iI 0)]) :: (ol, Own.ArrC Z .int [(iI 0), (iI 0), (iI 0), (iI 0), (iI 0), (iI 0), (iI 0), (iI 0)]) :: (ok, Own.ArrC Z .long [(jJ 0), (jJ 0), (jJ 0), (jJ 0)]) :: fr) O459) ?_
          rintro _ h460 ⟨rfl, O461⟩
          show Own.Goes _ _ _ _ _ _ _ _ _ _ _ _ _ _ _ _ _ (mkF m 208 #[.val (.ref o0), .val (.int (0 : Int32)), .val (.int (5 : Int32)), .val (.int (2 : Int32)), .val (.int (5 : Int32)), .val (.int (0 : Int32)), .val (.int (5 : Int32)), .val (.int (1 : Int32)), .val (.int f4)] [])
          have O462 : Own.Owns n0 h460 ((oc, Own.ArrC Z .int [(iI 3), (iI 2), (iI 1), (iI 1), (iI 1), (iI 0), (iI 0), (iI 0)]) :: (o0, WEo Z (.ref op) (.ref oc) (.ref of') (.ref ol) (.ref a3) (iI 0) (iI 2) (iI 0) (iI 0)) :: (a3, Own.ArrC Z .long [(jJ 0), (jJ 4294967297), (jJ 8589934594), (jJ 12884901891), (jJ 17179869188), (jJ 0), (jJ 0), (jJ 0), (jJ 0), (jJ 0)]) :: (of', Own.ArrC Z .int [(.int f0), (.int f3), (.int f2), (.int f3), (.int f4), (iI 0), (iI 0), (iI 0)]) :: (ol, Own.ArrC Z .int [(iI 0), (iI 0), (iI 0), (iI 0), (iI 0), (iI 0), (iI 0), (iI 0)]) :: (ok, Own.ArrC Z .long [(jJ 0), (jJ 0), (jJ 0), (jJ 0)]) :: fr) := O461.pick 2 rfl
          have O463 : Own.Owns n0 h460 ((o0, WEo Z (.ref op) (.ref oc) (.ref of') (.ref ol) (.ref a3) (iI 0) (iI 2) (iI 0) (iI 0)) :: (oc, Own.ArrC Z .int [(iI 3), (iI 2), (iI 1), (iI 1), (iI 1), (iI 0), (iI 0), (iI 0)]) :: (a3, Own.ArrC Z .long [(jJ 0), (jJ 4294967297), (jJ 8589934594), (jJ 12884901891), (jJ 17179869188), (jJ 0), (jJ 0), (jJ 0), (jJ 0), (jJ 0)]) :: (of', Own.ArrC Z .int [(.int f0), (.int f3), (.int f2), (.int f3), (.int f4), (iI 0), (iI 0), (iI 0)]) :: (ol, Own.ArrC Z .int [(iI 0), (iI 0), (iI 0), (iI 0), (iI 0), (iI 0), (iI 0), (iI 0)]) :: (ok, Own.ArrC Z .long [(jJ 0), (jJ 0), (jJ 0), (jJ 0)]) :: fr) := O462.pick 1 rfl
          have O464 : Own.Owns n0 h460 ((ok, Own.ArrC Z .long [(jJ 0), (jJ 0), (jJ 0), (jJ 0)]) :: (o0, WEo Z (.ref op) (.ref oc) (.ref of') (.ref ol) (.ref a3) (iI 0) (iI 2) (iI 0) (iI 0)) :: (oc, Own.ArrC Z .int [(iI 3), (iI 2), (iI 1), (iI 1), (iI 1), (iI 0), (iI 0), (iI 0)]) :: (a3, Own.ArrC Z .long [(jJ 0), (jJ 4294967297), (jJ 8589934594), (jJ 12884901891), (jJ 17179869188), (jJ 0), (jJ 0), (jJ 0), (jJ 0), (jJ 0)]) :: (of', Own.ArrC Z .int [(.int f0), (.int f3), (.int f2), (.int f3), (.int f4), (iI 0), (iI 0), (iI 0)]) :: (ol, Own.ArrC Z .int [(iI 0), (iI 0), (iI 0), (iI 0), (iI 0), (iI 0), (iI 0), (iI 0)]) :: fr) := O463.pick 5 rfl
          have O465 : Own.Owns n0 h460 ((ol, Own.ArrC Z .int [(iI 0), (iI 0), (iI 0), (iI 0), (iI 0), (iI 0), (iI 0), (iI 0)]) :: (ok, Own.ArrC Z .long [(jJ 0), (jJ 0), (jJ 0), (jJ 0)]) :: (o0, WEo Z (.ref op) (.ref oc) (.ref of') (.ref ol) (.ref a3) (iI 0) (iI 2) (iI 0) (iI 0)) :: (oc, Own.ArrC Z .int [(iI 3), (iI 2), (iI 1), (iI 1), (iI 1), (iI 0), (iI 0), (iI 0)]) :: (a3, Own.ArrC Z .long [(jJ 0), (jJ 4294967297), (jJ 8589934594), (jJ 12884901891), (jJ 17179869188), (jJ 0), (jJ 0), (jJ 0), (jJ 0), (jJ 0)]) :: (of', Own.ArrC Z .int [(.int f0), (.int f3), (.int f2), (.int f3), (.int f4), (iI 0), (iI 0), (iI 0)]) :: fr) := O464.pick 5 rfl
          have O466 : Own.Owns n0 h460 ((of', Own.ArrC Z .int [(.int f0), (.int f3), (.int f2), (.int f3), (.int f4), (iI 0), (iI 0), (iI 0)]) :: (ol, Own.ArrC Z .int [(iI 0), (iI 0), (iI 0), (iI 0), (iI 0), (iI 0), (iI 0), (iI 0)]) :: (ok, Own.ArrC Z .long [(jJ 0), (jJ 0), (jJ 0), (jJ 0)]) :: (o0, WEo Z (.ref op) (.ref oc) (.ref of') (.ref ol) (.ref a3) (iI 0) (iI 2) (iI 0) (iI 0)) :: (oc, Own.ArrC Z .int [(iI 3), (iI 2), (iI 1), (iI 1), (iI 1), (iI 0), (iI 0), (iI 0)]) :: (a3, Own.ArrC Z .long [(jJ 0), (jJ 4294967297), (jJ 8589934594), (jJ 12884901891), (jJ 17179869188), (jJ 0), (jJ 0), (jJ 0), (jJ 0), (jJ 0)]) :: fr) := O465.pick 5 rfl
          have O467 : Own.Owns n0 h460 ((a3, Own.ArrC Z .long [(jJ 0), (jJ 4294967297), (jJ 8589934594), (jJ 12884901891), (jJ 17179869188), (jJ 0), (jJ 0), (jJ 0), (jJ 0), (jJ 0)]) :: (of', Own.ArrC Z .int [(.int f0), (.int f3), (.int f2), (.int f3), (.int f4), (iI 0), (iI 0), (iI 0)]) :: (ol, Own.ArrC Z .int [(iI 0), (iI 0), (iI 0), (iI 0), (iI 0), (iI 0), (iI 0), (iI 0)]) :: (ok, Own.ArrC Z .long [(jJ 0), (jJ 0), (jJ 0), (jJ 0)]) :: (o0, WEo Z (.ref op) (.ref oc) (.ref of') (.ref ol) (.ref a3) (iI 0) (iI 2) (iI 0) (iI 0)) :: (oc, Own.ArrC Z .int [(iI 3), (iI 2), (iI 1), (iI 1), (iI 1), (iI 0), (iI 0), (iI 0)]) :: fr) := O466.pick 5 rfl
          exact Own.retV hx hret hlk (hb hby d11_208) (by decide) (by decide) ⟨[3, 2, 1, 1, 1, 0, 0, 0], (2 : Int32), a3, rfl, by rw [show dif f0 f1 = 0 from by rw [dif, if_pos hc30], show dif f1 f2 = 0 from by rw [← hc30, dif, if_pos hc286], show dif f2 f3 = 1 from by rw [← hc286, dif, if_neg hc414], show dif f3 f4 = 0 from by rw [dif, if_pos hc429]]; decide +kernel, O467.tail.tail.tail.tail⟩
      · refine Own.aloadN hx (.ref o0) (hb hby d11_117) rfl rfl rfl ?_
        refine Own.getfield hx hZ hown O411 1 1 rfl rfl (hw _ (wm 36 rfl)) (hb hby d11_118) rfl ?_
        refine Own.iloadN hx (1 : Int32) (hb hby d11_121) rfl rfl ?_
        refine Own.iconst hx (1 : Int32) (hb hby d11_122) rfl (by decide) ?_
        refine Own.isub hx (hb hby d11_123) rfl ?_
        refine Own.vI (0 : Int32) (by decide) ?_
        refine Own.dup2 hx (hb hby d11_124) rfl rfl rfl ?_
        refine Own.iaload hx hZ O411 2 0 rfl (by decide) (v := (.int (3 : Int32))) rfl (hb hby d11_125) rfl ?_
        refine Own.iload hx (1 : Int32) (hb hby d11_126) rfl rfl ?_
        refine Own.iadd hx (hb hby d11_128) rfl ?_
        refine Own.vI (4 : Int32) (by decide) ?_
        refine Own.iastore hx hZ O411 2 0 rfl (by decide) (by exact (show 0 < 8 by decide)) ((a3, Own.ArrC Z .long [(jJ 0), (jJ 4294967297), (jJ 8589934594), (jJ 12884901891), (jJ 0), (jJ 0), (jJ 0), (jJ 0), (jJ 0), (jJ 0)]) :: (o0, WEo Z (.ref op) (.ref oc) (.ref of') (.ref ol) (.ref a3) (iI 0) (iI 5) (iI 0) (iI 0)) :: (oc, Own.ArrC Z .int [(iI 4), (iI 1), (iI 1), (iI 1), (iI 1), (iI 0), (iI 0), (iI 0)]) :: (of', Own.ArrC Z .int [(.int f0), (.int f1), (.int f2), (.int f3), (.int f4), (iI 0), (iI 0), (iI 0)]) :: (ol, Own.ArrC Z .int [(iI 0), (iI 0), (iI 0), (iI 0), (iI 0), (iI 0), (iI 0), (iI 0)]) :: (ok, Own.ArrC Z .long [(jJ 0), (jJ 0), (jJ 0), (jJ 0)]) :: fr) rfl (hb hby d11_129) rfl ?_
        intro h468 O469
        refine Own.goto hx (hb hby d11_130) (by decide) (pc' := 165) rfl ?_
        refine Own.iload hx (3 : Int32) (hb hby d11_165) rfl rfl ?_
        refine Own.iload hx (1 : Int32) (hb hby d11_167) rfl rfl ?_
        refine Own.iadd hx (hb hby d11_169) rfl ?_
        refine Own.vI (4 : Int32) (by decide) ?_
        refine Own.istore hx (4 : Int32) rfl #[.val (.ref o0), .val (.int (0 : Int32)), .val (.int (4 : Int32)), .val (.int (1 : Int32)), .val (.int (4 : Int32)), .val (.int (0 : Int32)), .val (.int (3 : Int32)), .val (.int (1 : Int32)), .val (.int f3)] (hb hby d11_170) rfl rfl ?_
        refine Own.iinc hx (4 : Int32) #[.val (.ref o0), .val (.int (0 : Int32)), .val (.int (4 : Int32)), .val (.int (1 : Int32)), .val (.int (4 : Int32)), .val (.int (0 : Int32)), .val (.int (4 : Int32)), .val (.int (1 : Int32)), .val (.int f3)] (hb hby d11_172) rfl rfl (by decide) rfl ?_
        refine Own.goto hx (hb hby d11_175) (by decide) (pc' := 37) rfl ?_
        refine Own.iload hx (4 : Int32) (hb hby d11_37) rfl rfl ?_
        refine Own.aloadN hx (.ref o0) (hb hby d11_39) rfl rfl rfl ?_
        refine Own.getfield hx hZ hown O469 1 6 rfl rfl (hw _ (wm 55 rfl)) (hb hby d11_40) rfl ?_
        have hc470 : (4 : Int32) < (5 : Int32) := by decide
        refine Own.icmpFn hx (Own.q_ge (4 : Int32) (5 : Int32)) (hb hby d11_43) (pcN := 46) rfl (by decide) (pcT := 178) rfl (fun q => absurd hc470 q) (fun _ => ?_)
        refine Own.aloadN hx (.ref o0) (hb hby d11_46) rfl rfl rfl ?_
        refine Own.getfield hx hZ hown O469 1 1 rfl rfl (hw _ (wm 36 rfl)) (hb hby d11_47) rfl ?_
        refine Own.iload hx (4 : Int32) (hb hby d11_50) rfl rfl ?_
        refine Own.iaload hx hZ O469 2 4 rfl (by decide) (v := (.int (1 : Int32))) rfl (hb hby d11_52) rfl ?_
        refine Own.istore hx (1 : Int32) rfl #[.val (.ref o0), .val (.int (0 : Int32)), .val (.int (4 : Int32)), .val (.int (1 : Int32)), .val (.int (4 : Int32)), .val (.int (0 : Int32)), .val (.int (4 : Int32)), .val (.int (1 : Int32)), .val (.int f3)] (hb hby d11_53) rfl rfl ?_
        refine Own.aloadN hx (.ref o0) (hb hby d11_55) rfl rfl rfl ?_
        refine Own.getfield hx hZ hown O469 1 2 rfl rfl (hw _ (wm 38 rfl)) (hb hby d11_56) rfl ?_
        refine Own.iload hx (4 : Int32) (hb hby d11_59) rfl rfl ?_
        refine Own.iaload hx hZ O469 3 4 rfl (by decide) (v := (.int f4)) rfl (hb hby d11_61) rfl ?_
        refine Own.istore hx f4 rfl #[.val (.ref o0), .val (.int (0 : Int32)), .val (.int (4 : Int32)), .val (.int (1 : Int32)), .val (.int (4 : Int32)), .val (.int (0 : Int32)), .val (.int (4 : Int32)), .val (.int (1 : Int32)), .val (.int f4)] (hb hby d11_62) rfl rfl ?_
        refine Own.iload hx f4 (hb hby d11_64) rfl rfl ?_
        refine Own.iloadN hx (0 : Int32) (hb hby d11_66) rfl rfl ?_
        have hc472 : ¬ (f4 = (0 : Int32)) := hz4
        refine Own.icmpFn hx (Own.q_ne f4 (0 : Int32)) (hb hby d11_67) (pcN := 70) rfl (by decide) (pcT := 76) rfl (fun _ => ?_) (fun q => absurd q hc472)
        refine Own.aloadN hx (.ref o0) (hb hby d11_76) rfl rfl rfl ?_
        refine Own.getfield hx hZ hown O469 1 4 rfl rfl (hw _ (wm 42 rfl)) (hb hby d11_77) rfl ?_
        refine Own.iloadN hx (4 : Int32) (hb hby d11_80) rfl rfl ?_
        refine Own.iinc hx (5 : Int32) #[.val (.ref o0), .val (.int (0 : Int32)), .val (.int (5 : Int32)), .val (.int (1 : Int32)), .val (.int (4 : Int32)), .val (.int (0 : Int32)), .val (.int (4 : Int32)), .val (.int (1 : Int32)), .val (.int f4)] (hb hby d11_81) rfl rfl (by decide) rfl ?_
        refine Own.iload hx (4 : Int32) (hb hby d11_84) rfl rfl ?_
        refine Own.i2l hx (hb hby d11_86) rfl ?_
        refine Own.vL (4 : Int64) (by decide) ?_
        refine Own.bipush hx (32 : Int32) (hb hby d11_87) rfl (by decide) ?_
        refine Own.lshl hx (hb hby d11_89) rfl ?_
        refine Own.vL (17179869184 : Int64) (by decide) ?_
        refine Own.iload hx (4 : Int32) (hb hby d11_90) rfl rfl ?_
        refine Own.iload hx (1 : Int32) (hb hby d11_92) rfl rfl ?_
        refine Own.iadd hx (hb hby d11_94) rfl ?_
        refine Own.vI (5 : Int32) (by decide) ?_
        refine Own.iconst hx (1 : Int32) (hb hby d11_95) rfl (by decide) ?_
        refine Own.isub hx (hb hby d11_96) rfl ?_
        refine Own.vI (4 : Int32) (by decide) ?_
        refine Own.i2l hx (hb hby d11_97) rfl ?_
        refine Own.vL (4 : Int64) (by decide) ?_
        refine Own.lor hx (hb hby d11_98) rfl ?_
        refine Own.vL (17179869188 : Int64) (by decide) ?_
        refine Own.lastore hx hZ O469 0 4 rfl (by decide) (by exact (show 4 < 10 by decide)) ((a3, Own.ArrC Z .long [(jJ 0), (jJ 4294967297), (jJ 8589934594), (jJ 12884901891), (jJ 17179869188), (jJ 0), (jJ 0), (jJ 0), (jJ 0), (jJ 0)]) :: (o0, WEo Z (.ref op) (.ref oc) (.ref of') (.ref ol) (.ref a3) (iI 0) (iI 5) (iI 0) (iI 0)) :: (oc, Own.ArrC Z .int [(iI 4), (iI 1), (iI 1), (iI 1), (iI 1), (iI 0), (iI 0), (iI 0)]) :: (of', Own.ArrC Z .int [(.int f0), (.int f1), (.int f2), (.int f3), (.int f4), (iI 0), (iI 0), (iI 0)]) :: (ol, Own.ArrC Z .int [(iI 0), (iI 0), (iI 0), (iI 0), (iI 0), (iI 0), (iI 0), (iI 0)]) :: (ok, Own.ArrC Z .long [(jJ 0), (jJ 0), (jJ 0), (jJ 0)]) :: fr) rfl (hb hby d11_99) rfl ?_
        intro h474 O475
        refine Own.iloadN hx (1 : Int32) (hb hby d11_100) rfl rfl ?_
        have hc476 : (0 : Int32) < (1 : Int32) := by decide
        refine Own.ifFn hx (Own.z_le (1 : Int32)) (hb hby d11_101) (pcN := 104) rfl (by decide) (pcT := 133) rfl (fun q => absurd hc476 q) (fun _ => ?_)
        refine Own.aloadN hx (.ref o0) (hb hby d11_104) rfl rfl rfl ?_
        refine Own.getfield hx hZ hown O475 1 2 rfl rfl (hw _ (wm 38 rfl)) (hb hby d11_105) rfl ?_
        refine Own.iloadN hx (1 : Int32) (hb hby d11_108) rfl rfl ?_
        refine Own.iconst hx (1 : Int32) (hb hby d11_109) rfl (by decide) ?_
        refine Own.isub hx (hb hby d11_110) rfl ?_
        refine Own.vI (0 : Int32) (by decide) ?_
        refine Own.iaload hx hZ O475 3 0 rfl (by decide) (v := (.int f0)) rfl (hb hby d11_111) rfl ?_
        refine Own.iload hx f4 (hb hby d11_112) rfl rfl ?_
        refine Own.icmpFn hx (Own.q_ne f0 f4) (hb hby d11_114) (pcN := 117) rfl (by decide) (pcT := 133) rfl (fun hc478 => ?_) (fun hc478 => ?_)
        · refine Own.aloadN hx (.ref o0) (hb hby d11_133) rfl rfl rfl ?_
          refine Own.getfield hx hZ hown O475 1 1 rfl rfl (hw _ (wm 36 rfl)) (hb hby d11_134) rfl ?_
          refine Own.iloadN hx (1 : Int32) (hb hby d11_137) rfl rfl ?_
          refine Own.iload hx (1 : Int32) (hb hby d11_138) rfl rfl ?_
          refine Own.iastore hx hZ O475 2 1 rfl (by decide) (by exact (show 1 < 8 by decide)) ((a3, Own.ArrC Z .long [(jJ 0), (jJ 4294967297), (jJ 8589934594), (jJ 12884901891), (jJ 17179869188), (jJ 0), (jJ 0), (jJ 0), (jJ 0), (jJ 0)]) :: (o0, WEo Z (.ref op) (.ref oc) (.ref of') (.ref ol) (.ref a3) (iI 0) (iI 5) (iI 0) (iI 0)) :: (oc, Own.ArrC Z .int [(iI 4), (iI 1), (iI 1), (iI 1), (iI 1), (iI 0), (iI 0), (iI 0)]) :: (of', Own.ArrC Z .int [(.int f0), (.int f1), (.int f2), (.int f3), (.int f4), (iI 0), (iI 0), (iI 0)]) :: (ol, Own.ArrC Z .int [(iI 0), (iI 0), (iI 0), (iI 0), (iI 0), (iI 0), (iI 0), (iI 0)]) :: (ok, Own.ArrC Z .long [(jJ 0), (jJ 0), (jJ 0), (jJ 0)]) :: fr) rfl (hb hby d11_140) rfl ?_
          intro h479 O480
          refine Own.aloadN hx (.ref o0) (hb hby d11_141) rfl rfl rfl ?_
          refine Own.getfield hx hZ hown O480 1 2 rfl rfl (hw _ (wm 38 rfl)) (hb hby d11_142) rfl ?_
          refine Own.iloadN hx (1 : Int32) (hb hby d11_145) rfl rfl ?_
          refine Own.iload hx f4 (hb hby d11_146) rfl rfl ?_
          refine Own.iastore hx hZ O480 3 1 rfl (by decide) (by exact (show 1 < 8 by decide)) ((a3, Own.ArrC Z .long [(jJ 0), (jJ 4294967297), (jJ 8589934594), (jJ 12884901891), (jJ 17179869188), (jJ 0), (jJ 0), (jJ 0), (jJ 0), (jJ 0)]) :: (o0, WEo Z (.ref op) (.ref oc) (.ref of') (.ref ol) (.ref a3) (iI 0) (iI 5) (iI 0) (iI 0)) :: (oc, Own.ArrC Z .int [(iI 4), (iI 1), (iI 1), (iI 1), (iI 1), (iI 0), (iI 0), (iI 0)]) :: (of', Own.ArrC Z .int [(.int f0), (.int f4), (.int f2), (.int f3), (.int f4), (iI 0), (iI 0), (iI 0)]) :: (ol, Own.ArrC Z .int [(iI 0), (iI 0), (iI 0), (iI 0), (iI 0), (iI 0), (iI 0), (iI 0)]) :: (ok, Own.ArrC Z .long [(jJ 0), (jJ 0), (jJ 0), (jJ 0)]) :: fr) rfl (hb hby d11_148) rfl ?_
          intro h481 O482
          refine Own.aloadN hx (.ref o0) (hb hby d11_149) rfl rfl rfl ?_
          refine Own.getfield hx hZ hown O482 1 3 rfl rfl (hw _ (wm 40 rfl)) (hb hby d11_150) rfl ?_
          refine Own.iloadN hx (1 : Int32) (hb hby d11_153) rfl rfl ?_
          refine Own.iinc hx (2 : Int32) #[.val (.ref o0), .val (.int (0 : Int32)), .val (.int (5 : Int32)), .val (.int (2 : Int32)), .val (.int (4 : Int32)), .val (.int (0 : Int32)), .val (.int (4 : Int32)), .val (.int (1 : Int32)), .val (.int f4)] (hb hby d11_154) rfl rfl (by decide) rfl ?_
          refine Own.aloadN hx (.ref o0) (hb hby d11_157) rfl rfl rfl ?_
          refine Own.getfield hx hZ hown O482 1 3 rfl rfl (hw _ (wm 40 rfl)) (hb hby d11_158) rfl ?_
          refine Own.iload hx (4 : Int32) (hb hby d11_161) rfl rfl ?_
          refine Own.iaload hx hZ O482 4 4 rfl (by decide) (v := (.int (0 : Int32))) rfl (hb hby d11_163) rfl ?_
          refine Own.iastore hx hZ O482 4 1 rfl (by decide) (by exact (show 1 < 8 by decide)) ((a3, Own.ArrC Z .long [(jJ 0), (jJ 4294967297), (jJ 8589934594), (jJ 12884901891), (jJ 17179869188), (jJ 0), (jJ 0), (jJ 0), (jJ 0), (jJ 0)]) :: (o0, WEo Z (.ref op) (.ref oc) (.ref of') (.ref ol) (.ref a3) (iI 0) (iI 5) (iI 0) (iI 0)) :: (oc, Own.ArrC Z .int [(iI 4), (iI 1), (iI 1), (iI 1), (iI 1), (iI 0), (iI 0), (iI 0)]) :: (of', Own.ArrC Z .int [(.int f0), (.int f4), (.int f2), (.int f3), (.int f4), (iI 0), (iI 0), (iI 0)]) :: (ol, Own.ArrC Z .int [(iI 0), (iI 0), (iI 0), (iI 0), (iI 0), (iI 0), (iI 0), (iI 0)]) :: (ok, Own.ArrC Z .long [(jJ 0), (jJ 0), (jJ 0), (jJ 0)]) :: fr) rfl (hb hby d11_164) rfl ?_
          intro h483 O484
          refine Own.iload hx (4 : Int32) (hb hby d11_165) rfl rfl ?_
          refine Own.iload hx (1 : Int32) (hb hby d11_167) rfl rfl ?_
          refine Own.iadd hx (hb hby d11_169) rfl ?_
          refine Own.vI (5 : Int32) (by decide) ?_
          refine Own.istore hx (5 : Int32) rfl #[.val (.ref o0), .val (.int (0 : Int32)), .val (.int (5 : Int32)), .val (.int (2 : Int32)), .val (.int (5 : Int32)), .val (.int (0 : Int32)), .val (.int (4 : Int32)), .val (.int (1 : Int32)), .val (.int f4)] (hb hby d11_170) rfl rfl ?_
          refine Own.iinc hx (5 : Int32) #[.val (.ref o0), .val (.int (0 : Int32)), .val (.int (5 : Int32)), .val (.int (2 : Int32)), .val (.int (5 : Int32)), .val (.int (0 : Int32)), .val (.int (5 : Int32)), .val (.int (1 : Int32)), .val (.int f4)] (hb hby d11_172) rfl rfl (by decide) rfl ?_
          refine Own.goto hx (hb hby d11_175) (by decide) (pc' := 37) rfl ?_
          refine Own.iload hx (5 : Int32) (hb hby d11_37) rfl rfl ?_
          refine Own.aloadN hx (.ref o0) (hb hby d11_39) rfl rfl rfl ?_
          refine Own.getfield hx hZ hown O484 1 6 rfl rfl (hw _ (wm 55 rfl)) (hb hby d11_40) rfl ?_
          have hc485 : ¬ ((5 : Int32) < (5 : Int32)) := by decide
          refine Own.icmpFn hx (Own.q_ge (5 : Int32) (5 : Int32)) (hb hby d11_43) (pcN := 46) rfl (by decide) (pcT := 178) rfl (fun _ => ?_) (fun q => absurd q hc485)
          refine Own.iload hx (0 : Int32) (hb hby d11_178) rfl rfl ?_
          have hc487 : (0 : Int32) = (0 : Int32) := by decide
          refine Own.ifF hx (Own.z_eq (0 : Int32)) (hb hby d11_180) (pcN := 183) rfl (by decide) (pcT := 199) rfl (fun _ => ?_) (fun q => absurd hc487 q)
          refine Own.aloadN hx (.ref o0) (hb hby d11_199) rfl rfl rfl ?_
          refine Own.iloadN hx (2 : Int32) (hb hby d11_200) rfl rfl ?_
          refine Own.putfield hx hZ hown O484 1 6 rfl rfl (hw _ (wm 55 rfl)) (Or.inl (hw _ (wm 56 rfl))) (hw _ (wm 2 rfl)) (ty := .int) (by decide) rfl rfl ((a3, Own.ArrC Z .long [(jJ 0), (jJ 4294967297), (jJ 8589934594), (jJ 12884901891), (jJ 17179869188), (jJ 0), (jJ 0), (jJ 0), (jJ 0), (jJ 0)]) :: (o0, WEo Z (.ref op) (.ref oc) (.ref of') (.ref ol) (.ref a3) (iI 0) (iI 2) (iI 0) (iI 0)) :: (oc, Own.ArrC Z .int [(iI 4), (iI 1), (iI 1), (iI 1), (iI 1), (iI 0), (iI 0), (iI 0)]) :: (of', Own.ArrC Z .int [(.int f0), (.int f4), (.int f2), (.int f3), (.int f4), (iI 0), (iI 0), (iI 0)]) :: (ol, Own.ArrC Z .int [(iI 0), (iI 0), (iI 0), (iI 0), (iI 0), (iI 0), (iI 0), (iI 0)]) :: (ok, Own.ArrC Z .long [(jJ 0), (jJ 0), (jJ 0), (jJ 0)]) :: fr) rfl (hb hby d11_201) rfl ?_
          intro h489 O490
          refine Own.aloadN hx (.ref o0) (hb hby d11_204) rfl rfl rfl ?_
          have O491 : Own.Owns n0 h489 ((o0, WEo Z (.ref op) (.ref oc) (.ref of') (.ref ol) (.ref a3) (iI 0) (iI 2) (iI 0) (iI 0)) :: (a3, Own.ArrC Z .long [(jJ 0), (jJ 4294967297), (jJ 8589934594), (jJ 12884901891), (jJ 17179869188), (jJ 0), (jJ 0), (jJ 0), (jJ 0), (jJ 0)]) :: (oc, Own.ArrC Z .int [(iI 4), (iI 1), (iI 1), (iI 1), (iI 1), (iI 0), (iI 0), (iI 0)]) :: (of', Own.ArrC Z .int [(.int f0), (.int f4), (.int f2), (.int f3), (.int f4), (iI 0), (iI 0), (iI 0)]) :: (ol, Own.ArrC Z .int [(iI 0), (iI 0), (iI 0), (iI 0), (iI 0), (iI 0), (iI 0), (iI 0)]) :: (ok, Own.ArrC Z .long [(jJ 0), (jJ 0), (jJ 0), (jJ 0)]) :: fr) := O490.pick 1 rfl
          refine Own.callP hx hZ hown (O491.exa (i := 0) rfl) (hw _ (wm 90 rfl)) (hw _ (wm 91 rfl)) (hw _ (wm 2 rfl)) (hw _ (wm 92 rfl)) (hw _ (wm 3 rfl)) (hw _ (wm 93 rfl)) (by decide) pd0 (argsL := []) (rest := []) rfl (W := 0) (Nat.le_of_eq rfl) (rm := ({ frames := 0, cells := 0, slots := 0, locals := 0 } : Room)) (by decide) (by decide) (by decide) (by decide) (k' := 1) (n' := 10) rfl rfl (by rw [hml]; rfl) [(.ref o0)] rfl (hb hby d11_205) (pc' := 208) rfl (rm12 l Z a0 hw o0 h489 n0 op oc of' ol a3 (2 : Int32) (0 : Int32) (0 : Int32) ((a3, Own.ArrC Z .long [(jJ 0), (jJ 4294967297), (jJ 8589934594), (jJ 12884901891), (jJ 17179869188), (jJ 0), (jJ 0), (jJ 0), (jJ 0), (jJ 0)]) :: (oc, Own.ArrC Z .int [(iI 4), (iI 1), (iI 1), (iI 1), (iI 1), (iI 0), (iI 0), (iI 0)]) :: (of', Own.ArrC Z .int [(.int f0), (.int f4), (.int f2), (.int f3), (.int f4), (iI 0), (iI 0), (iI 0)]) :: (ol, Own.ArrC Z .int [(iI 0), (iI 0), (iI 0), (iI 0), (iI 0), (iI 0), (iI 0), (iI 0)]) :: (ok, Own.ArrC Z .long [(jJ 0), (jJ 0), (jJ 0), (jJ 0)]) :: fr) O491) ?_
          rintro _ h492 ⟨rfl, O493⟩
          show Own.Goes _ _ _ _ _ _ _ _ _ _ _ _ _ _ _ _ _ (mkF m 208 #[.val (.ref o0), .val (.int (0 : Int32)), .val (.int (5 : Int32)), .val (.int (2 : Int32)), .val (.int (5 : Int32)), .val (.int (0 : Int32)), .val (.int (5 : Int32)), .val (.int (1 : Int32)), .val (.int f4)] [])
          have O494 : Own.Owns n0 h492 ((oc, Own.ArrC Z .int [(iI 4), (iI 1), (iI 1), (iI 1), (iI 1), (iI 0), (iI 0), (iI 0)]) :: (o0, WEo Z (.ref op) (.ref oc) (.ref of') (.ref ol) (.ref a3) (iI 0) (iI 2) (iI 0) (iI 0)) :: (a3, Own.ArrC Z .long [(jJ 0), (jJ 4294967297), (jJ 8589934594), (jJ 12884901891), (jJ 17179869188), (jJ 0), (jJ 0), (jJ 0), (jJ 0), (jJ 0)]) :: (of', Own.ArrC Z .int [(.int f0), (.int f4), (.int f2), (.int f3), (.int f4), (iI 0), (iI 0), (iI 0)]) :: (ol, Own.ArrC Z .int [(iI 0), (iI 0), (iI 0), (iI 0), (iI 0), (iI 0), (iI 0), (iI 0)]) :: (ok, Own.ArrC Z .long [(jJ 0), (jJ 0), (jJ 0), (jJ 0)]) :: fr) := O493.pick 2 rfl
          have O495 : Own.Owns n0 h492 ((o0, WEo Z (.ref op) (.ref oc) (.ref of') (.ref ol) (.ref a3) (iI 0) (iI 2) (iI 0) (iI 0)) :: (oc, Own.ArrC Z .int [(iI 4), (iI 1), (iI 1), (iI 1), (iI 1), (iI 0), (iI 0), (iI 0)]) :: (a3, Own.ArrC Z .long [(jJ 0), (jJ 4294967297), (jJ 8589934594), (jJ 12884901891), (jJ 17179869188), (jJ 0), (jJ 0), (jJ 0), (jJ 0), (jJ 0)]) :: (of', Own.ArrC Z .int [(.int f0), (.int f4), (.int f2), (.int f3), (.int f4), (iI 0), (iI 0), (iI 0)]) :: (ol, Own.ArrC Z .int [(iI 0), (iI 0), (iI 0), (iI 0), (iI 0), (iI 0), (iI 0), (iI 0)]) :: (ok, Own.ArrC Z .long [(jJ 0), (jJ 0), (jJ 0), (jJ 0)]) :: fr) := O494.pick 1 rfl
          have O496 : Own.Owns n0 h492 ((ok, Own.ArrC Z .long [(jJ 0), (jJ 0), (jJ 0), (jJ 0)]) :: (o0, WEo Z (.ref op) (.ref oc) (.ref of') (.ref ol) (.ref a3) (iI 0) (iI 2) (iI 0) (iI 0)) :: (oc, Own.ArrC Z .int [(iI 4), (iI 1), (iI 1), (iI 1), (iI 1), (iI 0), (iI 0), (iI 0)]) :: (a3, Own.ArrC Z .long [(jJ 0), (jJ 4294967297), (jJ 8589934594), (jJ 12884901891), (jJ 17179869188), (jJ 0), (jJ 0), (jJ 0), (jJ 0), (jJ 0)]) :: (of', Own.ArrC Z .int [(.int f0), (.int f4), (.int f2), (.int f3), (.int f4), (iI 0), (iI 0), (iI 0)]) :: (ol, Own.ArrC Z .int [(iI 0), (iI 0), (iI 0), (iI 0), (iI 0), (iI 0), (iI 0), (iI 0)]) :: fr) := O495.pick 5 rfl
          have O497 : Own.Owns n0 h492 ((ol, Own.ArrC Z .int [(iI 0), (iI 0), (iI 0), (iI 0), (iI 0), (iI 0), (iI 0), (iI 0)]) :: (ok, Own.ArrC Z .long [(jJ 0), (jJ 0), (jJ 0), (jJ 0)]) :: (o0, WEo Z (.ref op) (.ref oc) (.ref of') (.ref ol) (.ref a3) (iI 0) (iI 2) (iI 0) (iI 0)) :: (oc, Own.ArrC Z .int [(iI 4), (iI 1), (iI 1), (iI 1), (iI 1), (iI 0), (iI 0), (iI 0)]) :: (a3, Own.ArrC Z .long [(jJ 0), (jJ 4294967297), (jJ 8589934594), (jJ 12884901891), (jJ 17179869188), (jJ 0), (jJ 0), (jJ 0), (jJ 0), (jJ 0)]) :: (of', Own.ArrC Z .int [(.int f0), (.int f4), (.int f2), (.int f3), (.int f4), (iI 0), (iI 0), (iI 0)]) :: fr) := O496.pick 5 rfl
          have O498 : Own.Owns n0 h492 ((of', Own.ArrC Z .int [(.int f0), (.int f4), (.int f2), (.int f3), (.int f4), (iI 0), (iI 0), (iI 0)]) :: (ol, Own.ArrC Z .int [(iI 0), (iI 0), (iI 0), (iI 0), (iI 0), (iI 0), (iI 0), (iI 0)]) :: (ok, Own.ArrC Z .long [(jJ 0), (jJ 0), (jJ 0), (jJ 0)]) :: (o0, WEo Z (.ref op) (.ref oc) (.ref of') (.ref ol) (.ref a3) (iI 0) (iI 2) (iI 0) (iI 0)) :: (oc, Own.ArrC Z .int [(iI 4), (iI 1), (iI 1), (iI 1), (iI 1), (iI 0), (iI 0), (iI 0)]) :: (a3, Own.ArrC Z .long [(jJ 0), (jJ 4294967297), (jJ 8589934594), (jJ 12884901891), (jJ 17179869188), (jJ 0), (jJ 0), (jJ 0), (jJ 0), (jJ 0)]) :: fr) := O497.pick 5 rfl
          have O499 : Own.Owns n0 h492 ((a3, Own.ArrC Z .long [(jJ 0), (jJ 4294967297), (jJ 8589934594), (jJ 12884901891), (jJ 17179869188), (jJ 0), (jJ 0), (jJ 0), (jJ 0), (jJ 0)]) :: (of', Own.ArrC Z .int [(.int f0), (.int f4), (.int f2), (.int f3), (.int f4), (iI 0), (iI 0), (iI 0)]) :: (ol, Own.ArrC Z .int [(iI 0), (iI 0), (iI 0), (iI 0), (iI 0), (iI 0), (iI 0), (iI 0)]) :: (ok, Own.ArrC Z .long [(jJ 0), (jJ 0), (jJ 0), (jJ 0)]) :: (o0, WEo Z (.ref op) (.ref oc) (.ref of') (.ref ol) (.ref a3) (iI 0) (iI 2) (iI 0) (iI 0)) :: (oc, Own.ArrC Z .int [(iI 4), (iI 1), (iI 1), (iI 1), (iI 1), (iI 0), (iI 0), (iI 0)]) :: fr) := O498.pick 5 rfl
          exact Own.retV hx hret hlk (hb hby d11_208) (by decide) (by decide) ⟨[4, 1, 1, 1, 1, 0, 0, 0], (2 : Int32), a3, rfl, by rw [show dif f0 f1 = 0 from by rw [dif, if_pos hc30], show dif f1 f2 = 0 from by rw [← hc30, dif, if_pos hc286], show dif f2 f3 = 0 from by rw [← hc286, dif, if_pos hc414], show dif f3 f4 = 1 from by rw [← hc414, dif, if_neg hc478]]; decide +kernel, O499.tail.tail.tail.tail⟩
        · refine Own.aloadN hx (.ref o0) (hb hby d11_117) rfl rfl rfl ?_
          refine Own.getfield hx hZ hown O475 1 1 rfl rfl (hw _ (wm 36 rfl)) (hb hby d11_118) rfl ?_
          refine Own.iloadN hx (1 : Int32) (hb hby d11_121) rfl rfl ?_
          refine Own.iconst hx (1 : Int32) (hb hby d11_122) rfl (by decide) ?_
          refine Own.isub hx (hb hby d11_123) rfl ?_
          refine Own.vI (0 : Int32) (by decide) ?_
          refine Own.dup2 hx (hb hby d11_124) rfl rfl rfl ?_
          refine Own.iaload hx hZ O475 2 0 rfl (by decide) (v := (.int (4 : Int32))) rfl (hb hby d11_125) rfl ?_
          refine Own.iload hx (1 : Int32) (hb hby d11_126) rfl rfl ?_
          refine Own.iadd hx (hb hby d11_128) rfl ?_
          refine Own.vI (5 : Int32) (by decide) ?_
          refine Own.iastore hx hZ O475 2 0 rfl (by decide) (by exact (show 0 < 8 by decide)) ((a3, Own.ArrC Z .long [(jJ 0), (jJ 4294967297), (jJ 8589934594), (jJ 12884901891), (jJ 17179869188), (jJ 0), (jJ 0), (jJ 0), (jJ 0), (jJ 0)]) :: (o0, WEo Z (.ref op) (.ref oc) (.ref of') (.ref ol) (.ref a3) (iI 0) (iI 5) (iI 0) (iI 0)) :: (oc, Own.ArrC Z .int [(iI 5), (iI 1), (iI 1), (iI 1), (iI 1), (iI 0), (iI 0), (iI 0)]) :: (of', Own.ArrC Z .int [(.int f0), (.int f1), (.int f2), (.int f3), (.int f4), (iI 0), (iI 0), (iI 0)]) :: (ol, Own.ArrC Z .int [(iI 0), (iI 0), (iI 0), (iI 0), (iI 0), (iI 0), (iI 0), (iI 0)]) :: (ok, Own.ArrC Z .long [(jJ 0), (jJ 0), (jJ 0), (jJ 0)]) :: fr) rfl (hb hby d11_129) rfl ?_
          intro h500 O501
          refine Own.goto hx (hb hby d11_130) (by decide) (pc' := 165) rfl ?_
          refine Own.iload hx (4 : Int32) (hb hby d11_165) rfl rfl ?_
          refine Own.iload hx (1 : Int32) (hb hby d11_167) rfl rfl ?_
          refine Own.iadd hx (hb hby d11_169) rfl ?_
          refine Own.vI (5 : Int32) (by decide) ?_
          refine Own.istore hx (5 : Int32) rfl #[.val (.ref o0), .val (.int (0 : Int32)), .val (.int (5 : Int32)), .val (.int (1 : Int32)), .val (.int (5 : Int32)), .val (.int (0 : Int32)), .val (.int (4 : Int32)), .val (.int (1 : Int32)), .val (.int f4)] (hb hby d11_170) rfl rfl ?_
          refine Own.iinc hx (5 : Int32) #[.val (.ref o0), .val (.int (0 : Int32)), .val (.int (5 : Int32)), .val (.int (1 : Int32)), .val (.int (5 : Int32)), .val (.int (0 : Int32)), .val (.int (5 : Int32)), .val (.int (1 : Int32)), .val (.int f4)] (hb hby d11_172) rfl rfl (by decide) rfl ?_
          refine Own.goto hx (hb hby d11_175) (by decide) (pc' := 37) rfl ?_
          refine Own.iload hx (5 : Int32) (hb hby d11_37) rfl rfl ?_
          refine Own.aloadN hx (.ref o0) (hb hby d11_39) rfl rfl rfl ?_
          refine Own.getfield hx hZ hown O501 1 6 rfl rfl (hw _ (wm 55 rfl)) (hb hby d11_40) rfl ?_
          have hc502 : ¬ ((5 : Int32) < (5 : Int32)) := by decide
          refine Own.icmpFn hx (Own.q_ge (5 : Int32) (5 : Int32)) (hb hby d11_43) (pcN := 46) rfl (by decide) (pcT := 178) rfl (fun _ => ?_) (fun q => absurd q hc502)
          refine Own.iload hx (0 : Int32) (hb hby d11_178) rfl rfl ?_
          have hc504 : (0 : Int32) = (0 : Int32) := by decide
          refine Own.ifF hx (Own.z_eq (0 : Int32)) (hb hby d11_180) (pcN := 183) rfl (by decide) (pcT := 199) rfl (fun _ => ?_) (fun q => absurd hc504 q)
          refine Own.aloadN hx (.ref o0) (hb hby d11_199) rfl rfl rfl ?_
          refine Own.iloadN hx (1 : Int32) (hb hby d11_200) rfl rfl ?_
          refine Own.putfield hx hZ hown O501 1 6 rfl rfl (hw _ (wm 55 rfl)) (Or.inl (hw _ (wm 56 rfl))) (hw _ (wm 2 rfl)) (ty := .int) (by decide) rfl rfl ((a3, Own.ArrC Z .long [(jJ 0), (jJ 4294967297), (jJ 8589934594), (jJ 12884901891), (jJ 17179869188), (jJ 0), (jJ 0), (jJ 0), (jJ 0), (jJ 0)]) :: (o0, WEo Z (.ref op) (.ref oc) (.ref of') (.ref ol) (.ref a3) (iI 0) (iI 1) (iI 0) (iI 0)) :: (oc, Own.ArrC Z .int [(iI 5), (iI 1), (iI 1), (iI 1), (iI 1), (iI 0), (iI 0), (iI 0)]) :: (of', Own.ArrC Z .int [(.int f0), (.int f1), (.int f2), (.int f3), (.int f4), (iI 0), (iI 0), (iI 0)]) :: (ol, Own.ArrC Z .int [(iI 0), (iI 0), (iI 0), (iI 0), (iI 0), (iI 0), (iI 0), (iI 0)]) :: (ok, Own.ArrC Z .long [(jJ 0), (jJ 0), (jJ 0), (jJ 0)]) :: fr) rfl (hb hby d11_201) rfl ?_
          intro h506 O507
          refine Own.aloadN hx (.ref o0) (hb hby d11_204) rfl rfl rfl ?_
          have O508 : Own.Owns n0 h506 ((o0, WEo Z (.ref op) (.ref oc) (.ref of') (.ref ol) (.ref a3) (iI 0) (iI 1) (iI 0) (iI 0)) :: (a3, Own.ArrC Z .long [(jJ 0), (jJ 4294967297), (jJ 8589934594), (jJ 12884901891), (jJ 17179869188), (jJ 0), (jJ 0), (jJ 0), (jJ 0), (jJ 0)]) :: (oc, Own.ArrC Z .int [(iI 5), (iI 1), (iI 1), (iI 1), (iI 1), (iI 0), (iI 0), (iI 0)]) :: (of', Own.ArrC Z .int [(.int f0), (.int f1), (.int f2), (.int f3), (.int f4), (iI 0), (iI 0), (iI 0)]) :: (ol, Own.ArrC Z .int [(iI 0), (iI 0), (iI 0), (iI 0), (iI 0), (iI 0), (iI 0), (iI 0)]) :: (ok, Own.ArrC Z .long [(jJ 0), (jJ 0), (jJ 0), (jJ 0)]) :: fr) := O507.pick 1 rfl
          refine Own.callP hx hZ hown (O508.exa (i := 0) rfl) (hw _ (wm 90 rfl)) (hw _ (wm 91 rfl)) (hw _ (wm 2 rfl)) (hw _ (wm 92 rfl)) (hw _ (wm 3 rfl)) (hw _ (wm 93 rfl)) (by decide) pd0 (argsL := []) (rest := []) rfl (W := 0) (Nat.le_of_eq rfl) (rm := ({ frames := 0, cells := 0, slots := 0, locals := 0 } : Room)) (by decide) (by decide) (by decide) (by decide) (k' := 1) (n' := 10) rfl rfl (by rw [hml]; rfl) [(.ref o0)] rfl (hb hby d11_205) (pc' := 208) rfl (rm12 l Z a0 hw o0 h506 n0 op oc of' ol a3 (1 : Int32) (0 : Int32) (0 : Int32) ((a3, Own.ArrC Z .long [(jJ 0), (jJ 4294967297), (jJ 8589934594), (jJ 12884901891), (jJ 17179869188), (jJ 0), (jJ 0), (jJ 0), (jJ 0), (jJ 0)]) :: (oc, Own.ArrC Z .int [(iI 5), (iI 1), (iI 1), (iI 1), (iI 1), (iI 0), (iI 0), (iI 0)]) :: (of', Own.ArrC Z .int [(.int f0), (.int f1), (.int f2), (.int f3), (.int f4), (iI 0), (iI 0), (iI 0)]) :: (ol, Own.ArrC Z .int [(iI 0), (iI 0), (iI 0), (iI 0), (iI 0), (iI 0), (iI 0), (iI 0)]) :: (ok, Own.ArrC Z .long [(jJ 0), (jJ 0), (jJ 0), (jJ 0)]) :: fr) O508) ?_
          rintro _ h509 ⟨rfl, O510⟩
          show Own.Goes _ _ _ _ _ _ _ _ _ _ _ _ _ _ _ _ _ (mkF m 208 #[.val (.ref o0), .val (.int (0 : Int32)), .val (.int (5 : Int32)), .val (.int (1 : Int32)), .val (.int (5 : Int32)), .val (.int (0 : Int32)), .val (.int (5 : Int32)), .val (.int (1 : Int32)), .val (.int f4)] [])
          have O511 : Own.Owns n0 h509 ((oc, Own.ArrC Z .int [(iI 5), (iI 1), (iI 1), (iI 1), (iI 1), (iI 0), (iI 0), (iI 0)]) :: (o0, WEo Z (.ref op) (.ref oc) (.ref of') (.ref ol) (.ref a3) (iI 0) (iI 1) (iI 0) (iI 0)) :: (a3, Own.ArrC Z .long [(jJ 0), (jJ 4294967297), (jJ 8589934594), (jJ 12884901891), (jJ 17179869188), (jJ 0), (jJ 0), (jJ 0), (jJ 0), (jJ 0)]) :: (of', Own.ArrC Z .int [(.int f0), (.int f1), (.int f2), (.int f3), (.int f4), (iI 0), (iI 0), (iI 0)]) :: (ol, Own.ArrC Z .int [(iI 0), (iI 0), (iI 0), (iI 0), (iI 0), (iI 0), (iI 0), (iI 0)]) :: (ok, Own.ArrC Z .long [(jJ 0), (jJ 0), (jJ 0), (jJ 0)]) :: fr) := O510.pick 2 rfl
          have O512 : Own.Owns n0 h509 ((o0, WEo Z (.ref op) (.ref oc) (.ref of') (.ref ol) (.ref a3) (iI 0) (iI 1) (iI 0) (iI 0)) :: (oc, Own.ArrC Z .int [(iI 5), (iI 1), (iI 1), (iI 1), (iI 1), (iI 0), (iI 0), (iI 0)]) :: (a3, Own.ArrC Z .long [(jJ 0), (jJ 4294967297), (jJ 8589934594), (jJ 12884901891), (jJ 17179869188), (jJ 0), (jJ 0), (jJ 0), (jJ 0), (jJ 0)]) :: (of', Own.ArrC Z .int [(.int f0), (.int f1), (.int f2), (.int f3), (.int f4), (iI 0), (iI 0), (iI 0)]) :: (ol, Own.ArrC Z .int [(iI 0), (iI 0), (iI 0), (iI 0), (iI 0), (iI 0), (iI 0), (iI 0)]) :: (ok, Own.ArrC Z .long [(jJ 0), (jJ 0), (jJ 0), (jJ 0)]) :: fr) := O511.pick 1 rfl
          have O513 : Own.Owns n0 h509 ((ok, Own.ArrC Z .long [(jJ 0), (jJ 0), (jJ 0), (jJ 0)]) :: (o0, WEo Z (.ref op) (.ref oc) (.ref of') (.ref ol) (.ref a3) (iI 0) (iI 1) (iI 0) (iI 0)) :: (oc, Own.ArrC Z .int [(iI 5), (iI 1), (iI 1), (iI 1), (iI 1), (iI 0), (iI 0), (iI 0)]) :: (a3, Own.ArrC Z .long [(jJ 0), (jJ 4294967297), (jJ 8589934594), (jJ 12884901891), (jJ 17179869188), (jJ 0), (jJ 0), (jJ 0), (jJ 0), (jJ 0)]) :: (of', Own.ArrC Z .int [(.int f0), (.int f1), (.int f2), (.int f3), (.int f4), (iI 0), (iI 0), (iI 0)]) :: (ol, Own.ArrC Z .int [(iI 0), (iI 0), (iI 0), (iI 0), (iI 0), (iI 0), (iI 0), (iI 0)]) :: fr) := O512.pick 5 rfl
          have O514 : Own.Owns n0 h509 ((ol, Own.ArrC Z .int [(iI 0), (iI 0), (iI 0), (iI 0), (iI 0), (iI 0), (iI 0), (iI 0)]) :: (ok, Own.ArrC Z .long [(jJ 0), (jJ 0), (jJ 0), (jJ 0)]) :: (o0, WEo Z (.ref op) (.ref oc) (.ref of') (.ref ol) (.ref a3) (iI 0) (iI 1) (iI 0) (iI 0)) :: (oc, Own.ArrC Z .int [(iI 5), (iI 1), (iI 1), (iI 1), (iI 1), (iI 0), (iI 0), (iI 0)]) :: (a3, Own.ArrC Z .long [(jJ 0), (jJ 4294967297), (jJ 8589934594), (jJ 12884901891), (jJ 17179869188), (jJ 0), (jJ 0), (jJ 0), (jJ 0), (jJ 0)]) :: (of', Own.ArrC Z .int [(.int f0), (.int f1), (.int f2), (.int f3), (.int f4), (iI 0), (iI 0), (iI 0)]) :: fr) := O513.pick 5 rfl
          have O515 : Own.Owns n0 h509 ((of', Own.ArrC Z .int [(.int f0), (.int f1), (.int f2), (.int f3), (.int f4), (iI 0), (iI 0), (iI 0)]) :: (ol, Own.ArrC Z .int [(iI 0), (iI 0), (iI 0), (iI 0), (iI 0), (iI 0), (iI 0), (iI 0)]) :: (ok, Own.ArrC Z .long [(jJ 0), (jJ 0), (jJ 0), (jJ 0)]) :: (o0, WEo Z (.ref op) (.ref oc) (.ref of') (.ref ol) (.ref a3) (iI 0) (iI 1) (iI 0) (iI 0)) :: (oc, Own.ArrC Z .int [(iI 5), (iI 1), (iI 1), (iI 1), (iI 1), (iI 0), (iI 0), (iI 0)]) :: (a3, Own.ArrC Z .long [(jJ 0), (jJ 4294967297), (jJ 8589934594), (jJ 12884901891), (jJ 17179869188), (jJ 0), (jJ 0), (jJ 0), (jJ 0), (jJ 0)]) :: fr) := O514.pick 5 rfl
          have O516 : Own.Owns n0 h509 ((a3, Own.ArrC Z .long [(jJ 0), (jJ 4294967297), (jJ 8589934594), (jJ 12884901891), (jJ 17179869188), (jJ 0), (jJ 0), (jJ 0), (jJ 0), (jJ 0)]) :: (of', Own.ArrC Z .int [(.int f0), (.int f1), (.int f2), (.int f3), (.int f4), (iI 0), (iI 0), (iI 0)]) :: (ol, Own.ArrC Z .int [(iI 0), (iI 0), (iI 0), (iI 0), (iI 0), (iI 0), (iI 0), (iI 0)]) :: (ok, Own.ArrC Z .long [(jJ 0), (jJ 0), (jJ 0), (jJ 0)]) :: (o0, WEo Z (.ref op) (.ref oc) (.ref of') (.ref ol) (.ref a3) (iI 0) (iI 1) (iI 0) (iI 0)) :: (oc, Own.ArrC Z .int [(iI 5), (iI 1), (iI 1), (iI 1), (iI 1), (iI 0), (iI 0), (iI 0)]) :: fr) := O515.pick 5 rfl
          exact Own.retV hx hret hlk (hb hby d11_208) (by decide) (by decide) ⟨[5, 1, 1, 1, 1, 0, 0, 0], (1 : Int32), a3, rfl, by rw [show dif f0 f1 = 0 from by rw [dif, if_pos hc30], show dif f1 f2 = 0 from by rw [← hc30, dif, if_pos hc286], show dif f2 f3 = 0 from by rw [← hc286, dif, if_pos hc414], show dif f3 f4 = 0 from by rw [← hc414, dif, if_pos hc478]]; decide +kernel, O516.tail.tail.tail.tail⟩

theorem own_tl {nn : Nat} (hn : nn < 2147483648) : nn.toInt32.toInt = (nn : Int) := len_toInt (by omega)
theorem own_succ (b : Nat) : (b + 1).toInt32 = b.toInt32 + (1 : Int32) := Int32.ofNat_add b 1
theorem own_add3 (a b : Nat) : (a + b).toInt32 = a.toInt32 + b.toInt32 := Int32.ofNat_add a b
theorem own_cs_at {cs : List Nat} {i : Nat} (hi : i < cs.length) : (cs.map gI)[i]? = some (.int (cs.getD i 0).toInt32) := by
  rw [List.getElem?_map, List.getD_eq_getElem?_getD, List.getElem?_eq_getElem hi]; rfl
theorem own_ylt {cs : List Nat} {sn en : Nat} {px : Int32} (hen : px.toInt = (en : Int)) (h : px < (pre cs sn).toInt32 + (cs.getD sn 0).toInt32) (hp : pre cs (sn + 1) < 1000) : en < pre cs (sn + 1) := by
  rw [← own_add3, ← pre_succ] at h
  have := Int32.lt_iff_toInt_lt.mp h
  rw [own_tl (by omega), hen] at this
  omega
theorem own_nlt {cs : List Nat} {sn en : Nat} {px : Int32} (hen : px.toInt = (en : Int)) (hp : pre cs sn ≤ en) (h : ¬ px < (pre cs sn).toInt32 + (cs.getD sn 0).toInt32) (hp9 : pre cs (sn + 1) < 1000) : pre cs (sn + 1) ≤ en := by
  rw [← own_add3, ← pre_succ] at h
  have : ¬ px.toInt < (pre cs (sn + 1)).toInt32.toInt := fun z => h (Int32.lt_iff_toInt_lt.mpr z)
  rw [own_tl (by omega), hen] at this
  omega
theorem own_nlt0 {cs : List Nat} {sn en : Nat} {px : Int32} (hen : px.toInt = (en : Int)) (h : ¬ px < (pre cs sn).toInt32) (hp : pre cs sn < 2147483648) : pre cs sn ≤ en := by
  have : ¬ px.toInt < (pre cs sn).toInt32.toInt := fun z => h (Int32.lt_iff_toInt_lt.mpr z)
  rw [own_tl hp, hen] at this
  omega

theorem d13_18 : decode prog_144_method_12_code 18 = .ok (.aload_n 0, 1) := by decide +kernel
theorem d13_19 : decode prog_144_method_12_code 19 = .ok (.getfield 59, 3) := by decide +kernel
theorem d13_22 : decode prog_144_method_12_code 22 = .ok (.aload_n 0, 1) := by decide +kernel
theorem d13_23 : decode prog_144_method_12_code 23 = .ok (.getfield 19, 3) := by decide +kernel
theorem d13_26 : decode prog_144_method_12_code 26 = .ok (.aload_n 0, 1) := by decide +kernel
theorem d13_27 : decode prog_144_method_12_code 27 = .ok (.getfield 62, 3) := by decide +kernel
theorem d13_30 : decode prog_144_method_12_code 30 = .ok (.iaload, 1) := by decide +kernel
theorem d13_31 : decode prog_144_method_12_code 31 = .ok (.iadd, 1) := by decide +kernel
theorem d13_32 : decode prog_144_method_12_code 32 = .ok (.iload_n 1, 1) := by decide +kernel
theorem d13_33 : decode prog_144_method_12_code 33 = .ok (.if_icmp .gt 31, 3) := by decide +kernel
theorem d13_36 : decode prog_144_method_12_code 36 = .ok (.aload_n 0, 1) := by decide +kernel
theorem d13_37 : decode prog_144_method_12_code 37 = .ok (.dup, 1) := by decide +kernel
theorem d13_38 : decode prog_144_method_12_code 38 = .ok (.getfield 59, 3) := by decide +kernel
theorem d13_41 : decode prog_144_method_12_code 41 = .ok (.aload_n 0, 1) := by decide +kernel
theorem d13_42 : decode prog_144_method_12_code 42 = .ok (.getfield 19, 3) := by decide +kernel
theorem d13_45 : decode prog_144_method_12_code 45 = .ok (.aload_n 0, 1) := by decide +kernel
theorem d13_46 : decode prog_144_method_12_code 46 = .ok (.dup, 1) := by decide +kernel
theorem d13_47 : decode prog_144_method_12_code 47 = .ok (.getfield 62, 3) := by decide +kernel
theorem d13_50 : decode prog_144_method_12_code 50 = .ok (.dup_x1, 1) := by decide +kernel
theorem d13_51 : decode prog_144_method_12_code 51 = .ok (.iconst 1, 1) := by decide +kernel
theorem d13_52 : decode prog_144_method_12_code 52 = .ok (.iadd, 1) := by decide +kernel
theorem d13_53 : decode prog_144_method_12_code 53 = .ok (.putfield 62, 3) := by decide +kernel
theorem d13_56 : decode prog_144_method_12_code 56 = .ok (.iaload, 1) := by decide +kernel
theorem d13_57 : decode prog_144_method_12_code 57 = .ok (.iadd, 1) := by decide +kernel
theorem d13_58 : decode prog_144_method_12_code 58 = .ok (.putfield 59, 3) := by decide +kernel
theorem d13_61 : decode prog_144_method_12_code 61 = .ok (.goto (-43), 3) := by decide +kernel
theorem d13_64 : decode prog_144_method_12_code 64 = .ok (.aload_n 0, 1) := by decide +kernel
theorem d13_65 : decode prog_144_method_12_code 65 = .ok (.getfield 62, 3) := by decide +kernel
theorem d13_68 : decode prog_144_method_12_code 68 = .ok (.ireturn, 1) := by decide +kernel
set_option maxRecDepth 65536 in
set_option maxHeartbeats 40000000 in
theorem str_loop {p : Program} {l : Launch} {e : Env} {R : Room} {s : State} {m : MethodId} {args : Array Value} {below : List Frame} {meth : Method} {c : Code} {n0 mc ms : Nat} {k n : Nat} {Z : State} {a0 : Array Value} (hw : ∀ d ∈ tables_1, d.before a0 Z = true) (hx : p.tables.exec = Jvm.exec) (hby : c.code = prog_144_method_12_code) (hml : c.maxLocals = 2) (hown : s.vm.findClass "com/example/tracewarden/tracewarden/monitor/WindowEntries" = some m.cls) (hZ : Z.Warmed39 s.vm) (hret : meth.sig.returnType = some .int) (hlk : meth.locks = false) (hk : k ≤ mc) (hn' : n ≤ ms) {fr : List (Addr × (Cell → Prop))} {o0 op oc of' ol ok : Addr} {js px : Int32} {cs : List Nat} {en : Nat} (hlen : cs.length = 8) (hpl : pre cs 8 < 1000) (hen : px.toInt = (en : Int)) (he8 : en < pre cs 8) :
    ∀ d sn (h : Heap), sn + d = 8 → pre cs sn ≤ en → Own.Owns n0 h ((o0, WEo Z (.ref op) (.ref oc) (.ref of') (.ref ol) (.ref ok) (iI 0) (.int js) (.int sn.toInt32) (.int (pre cs sn).toInt32)) :: (oc, Own.ArrC Z .int (cs.map gI)) :: fr) → Own.Goes p l e R s m args below meth c n0 mc ms (fun v h => ∃ sn, v = some (.int sn.toInt32) ∧ pre cs sn ≤ en ∧ en < pre cs (sn + 1) ∧ Own.Owns n0 h ((o0, WEo Z (.ref op) (.ref oc) (.ref of') (.ref ol) (.ref ok) (iI 0) (.int js) (.int sn.toInt32) (.int (pre cs sn).toInt32)) :: (oc, Own.ArrC Z .int (cs.map gI)) :: fr)) h k n (mkF m 18 #[.val (.ref o0), .val (.int px)] []) := by
  intro d
  induction d using Nat.strongRecOn with
  | ind d ih =>
  intro sn h hd hq1 O
  have hsn := fs_lt hlen hq1 he8
  replace hpl : pre cs (sn + 1) < 1000 := Nat.lt_of_le_of_lt (pre_le cs (show sn + 1 ≤ 8 by omega)) hpl
  refine Own.aloadN hx (.ref o0) (hb hby d13_18) rfl rfl rfl ?_
  refine Own.getfield hx hZ hown O 0 8 rfl rfl (hw _ (wm 96 rfl)) (hb hby d13_19) rfl ?_
  refine Own.aloadN hx (.ref o0) (hb hby d13_22) rfl rfl rfl ?_
  refine Own.getfield hx hZ hown O 0 1 rfl rfl (hw _ (wm 36 rfl)) (hb hby d13_23) rfl ?_
  refine Own.aloadN hx (.ref o0) (hb hby d13_26) rfl rfl rfl ?_
  refine Own.getfield hx hZ hown O 0 7 rfl rfl (hw _ (wm 94 rfl)) (hb hby d13_27) rfl ?_
  refine Own.iaload hx hZ O 1 sn rfl (own_tl (by omega)) (v := (.int (cs.getD sn 0).toInt32)) (own_cs_at (by omega)) (hb hby d13_30) rfl ?_
  refine Own.iadd hx (hb hby d13_31) rfl ?_
  refine Own.iloadN hx px (hb hby d13_32) rfl rfl ?_
  refine Own.icmpF hx (Own.q_gt ((pre cs sn).toInt32 + (cs.getD sn 0).toInt32) px) (hb hby d13_33) (pcN := 36) rfl (by decide) (pcT := 64) rfl (fun hcE => ?_) (fun hcE => ?_)
  · refine Own.aloadN hx (.ref o0) (hb hby d13_64) rfl rfl rfl ?_
    refine Own.getfield hx hZ hown O 0 7 rfl rfl (hw _ (wm 94 rfl)) (hb hby d13_65) rfl ?_
    exact Own.retI hx hret hlk (hb hby d13_68) hk hn' ⟨sn, rfl, hq1, own_ylt hen hcE hpl, O⟩
  · refine Own.aloadN hx (.ref o0) (hb hby d13_36) rfl rfl rfl ?_
    refine Own.dup hx (hb hby d13_37) rfl rfl ?_
    refine Own.getfield hx hZ hown O 0 8 rfl rfl (hw _ (wm 96 rfl)) (hb hby d13_38) rfl ?_
    refine Own.aloadN hx (.ref o0) (hb hby d13_41) rfl rfl rfl ?_
    refine Own.getfield hx hZ hown O 0 1 rfl rfl (hw _ (wm 36 rfl)) (hb hby d13_42) rfl ?_
    refine Own.aloadN hx (.ref o0) (hb hby d13_45) rfl rfl rfl ?_
    refine Own.dup hx (hb hby d13_46) rfl rfl ?_
    refine Own.getfield hx hZ hown O 0 7 rfl rfl (hw _ (wm 94 rfl)) (hb hby d13_47) rfl ?_
    refine Own.dupX1 hx (hb hby d13_50) rfl rfl rfl ?_
    refine Own.iconst hx (1 : Int32) (hb hby d13_51) rfl (by decide) ?_
    refine Own.iadd hx (hb hby d13_52) rfl ?_
    refine Own.putfield hx hZ hown O 0 7 rfl rfl (hw _ (wm 94 rfl)) (Or.inl (hw _ (wm 95 rfl))) (hw _ (wm 2 rfl)) (ty := .int) (by decide) rfl rfl ((o0, WEo Z (.ref op) (.ref oc) (.ref of') (.ref ol) (.ref ok) (iI 0) (.int js) (.int (sn.toInt32 + (1 : Int32))) (.int (pre cs sn).toInt32)) :: (oc, Own.ArrC Z .int (cs.map gI)) :: fr) rfl (hb hby d13_53) rfl ?_
    intro h2 O3
    refine Own.iaload hx hZ O3 1 sn rfl (own_tl (by omega)) (v := (.int (cs.getD sn 0).toInt32)) (own_cs_at (by omega)) (hb hby d13_56) rfl ?_
    refine Own.iadd hx (hb hby d13_57) rfl ?_
    refine Own.putfield hx hZ hown O3 0 8 rfl rfl (hw _ (wm 96 rfl)) (Or.inl (hw _ (wm 97 rfl))) (hw _ (wm 2 rfl)) (ty := .int) (by decide) rfl rfl ((o0, WEo Z (.ref op) (.ref oc) (.ref of') (.ref ol) (.ref ok) (iI 0) (.int js) (.int (sn.toInt32 + (1 : Int32))) (.int ((pre cs sn).toInt32 + (cs.getD sn 0).toInt32))) :: (oc, Own.ArrC Z .int (cs.map gI)) :: fr) rfl (hb hby d13_58) rfl ?_
    intro h4 O5
    refine Own.goto hx (hb hby d13_61) (by decide) (pc' := 18) rfl ?_
    have O2 : Own.Owns n0 h4 ((o0, WEo Z (.ref op) (.ref oc) (.ref of') (.ref ol) (.ref ok) (iI 0) (.int js) (.int (sn + 1).toInt32) (.int (pre cs (sn + 1)).toInt32)) :: (oc, Own.ArrC Z .int (cs.map gI)) :: fr) := by rw [own_succ, pre_succ, own_add3]; exact O5
    exact ih (7 - sn) (by omega) (sn + 1) h4 (by omega) (own_nlt hen hq1 hcE hpl) O2
theorem d13_0 : decode prog_144_method_12_code 0 = .ok (.iload_n 1, 1) := by decide +kernel
theorem d13_1 : decode prog_144_method_12_code 1 = .ok (.aload_n 0, 1) := by decide +kernel
theorem d13_2 : decode prog_144_method_12_code 2 = .ok (.getfield 59, 3) := by decide +kernel
theorem d13_5 : decode prog_144_method_12_code 5 = .ok (.if_icmp .ge 13, 3) := by decide +kernel
theorem d13_8 : decode prog_144_method_12_code 8 = .ok (.aload_n 0, 1) := by decide +kernel
theorem d13_9 : decode prog_144_method_12_code 9 = .ok (.iconst 0, 1) := by decide +kernel
theorem d13_10 : decode prog_144_method_12_code 10 = .ok (.putfield 62, 3) := by decide +kernel
theorem d13_13 : decode prog_144_method_12_code 13 = .ok (.aload_n 0, 1) := by decide +kernel
theorem d13_14 : decode prog_144_method_12_code 14 = .ok (.iconst 0, 1) := by decide +kernel
theorem d13_15 : decode prog_144_method_12_code 15 = .ok (.putfield 59, 3) := by decide +kernel
theorem pn11 : plainFor (⟨"com/example/tracewarden/tracewarden/monitor/WindowEntries", "stretchOf", "(I)I"⟩ : MethodName) = true := by first | exact plainFor_of_name (by simp [plainName, overriddenIn]; done) | decide +kernel
theorem ef13 (m : MethodId) (x0 : Addr) (x1 : Int32) : entryFrame m #[(.ref x0), (.int x1)] 2 = mkF m 0 #[.val (.ref x0), .val (.int x1)] [] := by first | (simp [entryFrame, mkF, argsToLocals, Value.category]; done) | rfl
set_option maxRecDepth 65536 in
set_option maxHeartbeats 40000000 in
theorem rm13 (l : Launch) (Z : State) (a0 : Array Value) (hw : ∀ d ∈ tables_1, d.before a0 Z = true) (o0 : Addr) (p1 : Int32) (h0 : Heap) (n0 : Nat) (op oc of' ol ok : Addr) (js : Int32) (cs : List Nat) (en sn : Nat) (hlen : cs.length = 8) (hpl : pre cs 8 < 1000) (hen : p1.toInt = (en : Int)) (he8 : en < pre cs 8) (hsn : sn ≤ 8) (fr : List (Addr × (Cell → Prop))) (O0 : Own.Owns n0 h0 ((o0, WEo Z (.ref op) (.ref oc) (.ref of') (.ref ol) (.ref ok) (iI 0) (.int js) (.int sn.toInt32) (.int (pre cs sn).toInt32)) :: (oc, Own.ArrC Z .int (cs.map gI)) :: fr))  : Own.Does l (⟨"com/example/tracewarden/tracewarden/monitor/WindowEntries", "stretchOf", "(I)I"⟩ : MethodName) prog_144_method_12_code 2 (some .int) [] ({ frames := 0, cells := 0, slots := 0, locals := 0 } : Room) Z #[(.ref o0), (.int p1)] h0 n0 (fun v h => ∃ sn, v = some (.int sn.toInt32) ∧ pre cs sn ≤ en ∧ en < pre cs (sn + 1) ∧ Own.Owns n0 h ((o0, WEo Z (.ref op) (.ref oc) (.ref of') (.ref ol) (.ref ok) (iI 0) (.int js) (.int sn.toInt32) (.int (pre cs sn).toInt32)) :: (oc, Own.ArrC Z .int (cs.map gI)) :: fr)) := by
  refine Own.doesOf pn11 ?_
  intro p e s m below meth c hx hby hml hret hlk hown hnm hZ
  refine Own.Goes.cast (ef13 m o0 p1) ?_
  refine Own.iloadN hx p1 (hb hby d13_0) rfl rfl ?_
  refine Own.aloadN hx (.ref o0) (hb hby d13_1) rfl rfl rfl ?_
  refine Own.getfield hx hZ hown O0 0 8 rfl rfl (hw _ (wm 96 rfl)) (hb hby d13_2) rfl ?_
  refine Own.icmpFn hx (Own.q_ge p1 (pre cs sn).toInt32) (hb hby d13_5) (pcN := 8) rfl (by decide) (pcT := 18) rfl (fun hc1 => ?_) (fun hc1 => ?_)
  · exact str_loop hw hx hby hml hown hZ hret hlk (by decide) (by decide) hlen hpl hen he8 (8 - sn) sn _ (by omega) (own_nlt0 hen hc1 (by have := pre_le cs hsn; omega)) O0
  · refine Own.aloadN hx (.ref o0) (hb hby d13_8) rfl rfl rfl ?_
    refine Own.iconst hx (0 : Int32) (hb hby d13_9) rfl (by decide) ?_
    refine Own.putfield hx hZ hown O0 0 7 rfl rfl (hw _ (wm 94 rfl)) (Or.inl (hw _ (wm 95 rfl))) (hw _ (wm 2 rfl)) (ty := .int) (by decide) rfl rfl ((o0, WEo Z (.ref op) (.ref oc) (.ref of') (.ref ol) (.ref ok) (iI 0) (.int js) (iI 0) (.int (pre cs sn).toInt32)) :: (oc, Own.ArrC Z .int (cs.map gI)) :: fr) rfl (hb hby d13_10) rfl ?_
    intro h2 O3
    refine Own.aloadN hx (.ref o0) (hb hby d13_13) rfl rfl rfl ?_
    refine Own.iconst hx (0 : Int32) (hb hby d13_14) rfl (by decide) ?_
    refine Own.putfield hx hZ hown O3 0 8 rfl rfl (hw _ (wm 96 rfl)) (Or.inl (hw _ (wm 97 rfl))) (hw _ (wm 2 rfl)) (ty := .int) (by decide) rfl rfl ((o0, WEo Z (.ref op) (.ref oc) (.ref of') (.ref ol) (.ref ok) (iI 0) (.int js) (iI 0) (iI 0)) :: (oc, Own.ArrC Z .int (cs.map gI)) :: fr) rfl (hb hby d13_15) rfl ?_
    intro h4 O5
    exact str_loop hw hx hby hml hown hZ hret hlk (by decide) (by decide) hlen hpl hen he8 8 0 _ (by omega) (by simp [pre]) O5

theorem d15_0 : decode method_2_code 0 = .ok (.iload_n 0, 1) := by decide +kernel
theorem d15_1 : decode method_2_code 1 = .ok (.iload_n 1, 1) := by decide +kernel
theorem d15_2 : decode method_2_code 2 = .ok (.iushr, 1) := by decide +kernel
theorem d15_3 : decode method_2_code 3 = .ok (.iload_n 0, 1) := by decide +kernel
theorem d15_4 : decode method_2_code 4 = .ok (.iload_n 1, 1) := by decide +kernel
theorem d15_5 : decode method_2_code 5 = .ok (.iconst 1, 1) := by decide +kernel
theorem d15_6 : decode method_2_code 6 = .ok (.isub, 1) := by decide +kernel
theorem d15_7 : decode method_2_code 7 = .ok (.iushr, 1) := by decide +kernel
theorem d15_8 : decode method_2_code 8 = .ok (.ixor, 1) := by decide +kernel
theorem d15_9 : decode method_2_code 9 = .ok (.iconst 1, 1) := by decide +kernel
theorem d15_10 : decode method_2_code 10 = .ok (.iand, 1) := by decide +kernel
theorem d15_11 : decode method_2_code 11 = .ok (.ireturn, 1) := by decide +kernel
theorem pn12 : plainFor (⟨"com/example/tracewarden/tracewarden/monitor/WindowEntriesStretchOfPinLaw", "d", "(II)I"⟩ : MethodName) = true := by first | exact plainFor_of_name (by simp [plainName, overriddenIn]; done) | decide +kernel
theorem ef15 (m : MethodId) (x0 : Int32) (x1 : Int32) : entryFrame m #[(.int x0), (.int x1)] 2 = mkF m 0 #[.val (.int x0), .val (.int x1)] [] := by first | (simp [entryFrame, mkF, argsToLocals, Value.category]; done) | rfl
set_option maxRecDepth 65536 in
set_option maxHeartbeats 40000000 in
theorem rm15 (l : Launch) (Z : State) (a0 : Array Value) (hw : ∀ d ∈ tables_1, d.before a0 Z = true) (p0 : Int32) (p1 : Int32) (h0 : Heap) (n0 : Nat)   : Own.Does l (⟨"com/example/tracewarden/tracewarden/monitor/WindowEntriesStretchOfPinLaw", "d", "(II)I"⟩ : MethodName) method_2_code 2 (some .int) [] ({ frames := 0, cells := 0, slots := 0, locals := 0 } : Room) Z #[(.int p0), (.int p1)] h0 n0 (fun v h => v = some (.int (fD p0 p1)) ∧ h = h0) := by
  refine Own.doesOf pn12 ?_
  intro p e s m below meth c hx hby hml hret hlk hown hnm hZ
  refine Own.Goes.cast (ef15 m p0 p1) ?_
  refine Own.iloadN hx p0 (hb hby d15_0) rfl rfl ?_
  refine Own.iloadN hx p1 (hb hby d15_1) rfl rfl ?_
  refine Own.iushr hx (hb hby d15_2) rfl ?_
  refine Own.iloadN hx p0 (hb hby d15_3) rfl rfl ?_
  refine Own.iloadN hx p1 (hb hby d15_4) rfl rfl ?_
  refine Own.iconst hx (1 : Int32) (hb hby d15_5) rfl (by decide) ?_
  refine Own.isub hx (hb hby d15_6) rfl ?_
  refine Own.iushr hx (hb hby d15_7) rfl ?_
  refine Own.ixor hx (hb hby d15_8) rfl ?_
  refine Own.iconst hx (1 : Int32) (hb hby d15_9) rfl (by decide) ?_
  refine Own.iand hx (hb hby d15_10) rfl ?_
  exact Own.retI hx hret hlk (hb hby d15_11) (by decide) (by decide) ⟨by rfl, rfl⟩

theorem d14_0 : decode method_3_code 0 = .ok (.iconst 0, 1) := by decide +kernel
theorem d14_1 : decode method_3_code 1 = .ok (.istore_n 2, 1) := by decide +kernel
theorem d14_2 : decode method_3_code 2 = .ok (.iload_n 1, 1) := by decide +kernel
theorem d14_3 : decode method_3_code 3 = .ok (.iconst 1, 1) := by decide +kernel
theorem d14_4 : decode method_3_code 4 = .ok (.if_icmp .lt 11, 3) := by decide +kernel
theorem d14_7 : decode method_3_code 7 = .ok (.iload_n 2, 1) := by decide +kernel
theorem d14_8 : decode method_3_code 8 = .ok (.iload_n 0, 1) := by decide +kernel
theorem d14_9 : decode method_3_code 9 = .ok (.iconst 1, 1) := by decide +kernel
theorem d14_10 : decode method_3_code 10 = .ok (.invokestatic 7, 3) := by decide +kernel
theorem d14_13 : decode method_3_code 13 = .ok (.iadd, 1) := by decide +kernel
theorem d14_14 : decode method_3_code 14 = .ok (.istore_n 2, 1) := by decide +kernel
theorem d14_15 : decode method_3_code 15 = .ok (.iload_n 1, 1) := by decide +kernel
theorem d14_16 : decode method_3_code 16 = .ok (.iconst 2, 1) := by decide +kernel
theorem d14_17 : decode method_3_code 17 = .ok (.if_icmp .lt 11, 3) := by decide +kernel
theorem d14_20 : decode method_3_code 20 = .ok (.iload_n 2, 1) := by decide +kernel
theorem d14_21 : decode method_3_code 21 = .ok (.iload_n 0, 1) := by decide +kernel
theorem d14_22 : decode method_3_code 22 = .ok (.iconst 2, 1) := by decide +kernel
theorem d14_23 : decode method_3_code 23 = .ok (.invokestatic 7, 3) := by decide +kernel
theorem d14_26 : decode method_3_code 26 = .ok (.iadd, 1) := by decide +kernel
theorem d14_27 : decode method_3_code 27 = .ok (.istore_n 2, 1) := by decide +kernel
theorem d14_28 : decode method_3_code 28 = .ok (.iload_n 1, 1) := by decide +kernel
theorem d14_29 : decode method_3_code 29 = .ok (.iconst 3, 1) := by decide +kernel
theorem d14_30 : decode method_3_code 30 = .ok (.if_icmp .lt 11, 3) := by decide +kernel
theorem d14_33 : decode method_3_code 33 = .ok (.iload_n 2, 1) := by decide +kernel
theorem d14_34 : decode method_3_code 34 = .ok (.iload_n 0, 1) := by decide +kernel
theorem d14_35 : decode method_3_code 35 = .ok (.iconst 3, 1) := by decide +kernel
theorem d14_36 : decode method_3_code 36 = .ok (.invokestatic 7, 3) := by decide +kernel
theorem d14_39 : decode method_3_code 39 = .ok (.iadd, 1) := by decide +kernel
theorem d14_40 : decode method_3_code 40 = .ok (.istore_n 2, 1) := by decide +kernel
theorem d14_41 : decode method_3_code 41 = .ok (.iload_n 1, 1) := by decide +kernel
theorem d14_42 : decode method_3_code 42 = .ok (.iconst 4, 1) := by decide +kernel
theorem d14_43 : decode method_3_code 43 = .ok (.if_icmp .lt 11, 3) := by decide +kernel
theorem d14_46 : decode method_3_code 46 = .ok (.iload_n 2, 1) := by decide +kernel
theorem d14_47 : decode method_3_code 47 = .ok (.iload_n 0, 1) := by decide +kernel
theorem d14_48 : decode method_3_code 48 = .ok (.iconst 4, 1) := by decide +kernel
theorem d14_49 : decode method_3_code 49 = .ok (.invokestatic 7, 3) := by decide +kernel
theorem d14_52 : decode method_3_code 52 = .ok (.iadd, 1) := by decide +kernel
theorem d14_53 : decode method_3_code 53 = .ok (.istore_n 2, 1) := by decide +kernel
theorem d14_54 : decode method_3_code 54 = .ok (.iload_n 2, 1) := by decide +kernel
theorem d14_55 : decode method_3_code 55 = .ok (.ireturn, 1) := by decide +kernel
theorem pn13 : plainFor (⟨"com/example/tracewarden/tracewarden/monitor/WindowEntriesStretchOfPinLaw", "ref", "(II)I"⟩ : MethodName) = true := by first | exact plainFor_of_name (by simp [plainName, overriddenIn]; done) | decide +kernel
theorem ef14 (m : MethodId) (x0 : Int32) (x1 : Int32) : entryFrame m #[(.int x0), (.int x1)] 3 = mkF m 0 #[.val (.int x0), .val (.int x1), .unset] [] := by first | (simp [entryFrame, mkF, argsToLocals, Value.category]; done) | rfl
set_option maxRecDepth 65536 in
set_option maxHeartbeats 40000000 in
theorem rm14 (l : Launch) (Z : State) (a0 : Array Value) (hw : ∀ d ∈ tables_1, d.before a0 Z = true) (p0 : Int32) (p1 : Int32) (h0 : Heap) (n0 : Nat)   : Own.Does l (⟨"com/example/tracewarden/tracewarden/monitor/WindowEntriesStretchOfPinLaw", "ref", "(II)I"⟩ : MethodName) method_3_code 3 (some .int) [] ({ frames := 1, cells := 0, slots := 0, locals := 14 } : Room) Z #[(.int p0), (.int p1)] h0 n0 (fun v h => v = some (.int (fRef p0 p1)) ∧ h = h0) := by
  refine Own.doesOf pn13 ?_
  intro p e s m below meth c hx hby hml hret hlk hown hnm hZ
  refine Own.Goes.cast (ef14 m p0 p1) ?_
  refine Own.iconst hx (0 : Int32) (hb hby d14_0) rfl (by decide) ?_
  refine Own.istoreN hx (0 : Int32) rfl #[.val (.int p0), .val (.int p1), .val (.int (0 : Int32))] (hb hby d14_1) rfl rfl ?_
  refine Own.iloadN hx p1 (hb hby d14_2) rfl rfl ?_
  refine Own.iconst hx (1 : Int32) (hb hby d14_3) rfl (by decide) ?_
  obtain ⟨v2, h_v2⟩ : ∃ z : Int32, z = (if p1 < (1 : Int32) then (0 : Int32) else ((0 : Int32) + (fD p0 (1 : Int32)))) := ⟨_, rfl⟩
  refine Own.Goes.join (mkF m 15 #[.val (.int p0), .val (.int p1), .val (.int v2)] []) (fun kJ3 => ?_) ?_
  · refine Own.icmpF hx (Own.q_lt p1 (1 : Int32)) (hb hby d14_4) (pcN := 7) rfl (by decide) (pcT := 15) rfl (fun hc1 => ?_) (fun hc1 => ?_)
    · try simp only [if_pos hc1] at h_v2
      subst h_v2
      exact kJ3
    · refine Own.iloadN hx (0 : Int32) (hb hby d14_7) rfl rfl ?_
      refine Own.iloadN hx p0 (hb hby d14_8) rfl rfl ?_
      refine Own.iconst hx (1 : Int32) (hb hby d14_9) rfl (by decide) ?_
      refine Own.callS hx hZ hown (hw _ (wm 107 rfl)) (hw _ (wm 108 rfl)) (hw _ (wm 105 rfl)) (hw _ (wm 109 rfl)) (by decide) pd1 (argsL := [(.int p0), (.int (1 : Int32))]) (rest := [(.int (0 : Int32))]) rfl (W := 1) (Nat.le_of_eq rfl) (rm := ({ frames := 0, cells := 0, slots := 0, locals := 0 } : Room)) (by decide) (by decide) (by decide) (by decide) (k' := 0) (n' := 0) rfl rfl (by rw [hml]; rfl) [(.int (1 : Int32)), (.int p0), (.int (0 : Int32))] rfl (hb hby d14_10) (pc' := 13) rfl (rm15 l Z a0 hw p0 (1 : Int32) h0 n0) ?_
      rintro _ h' ⟨rfl, eh⟩
      rw [eh]; clear eh h'
      show Own.Goes _ _ _ _ _ _ _ _ _ _ _ _ _ _ _ _ _ (mkF m 13 #[.val (.int p0), .val (.int p1), .val (.int (0 : Int32))] [(.int (fD p0 (1 : Int32))), (.int (0 : Int32))])
      refine Own.iadd hx (hb hby d14_13) rfl ?_
      refine Own.istoreN hx ((0 : Int32) + (fD p0 (1 : Int32))) rfl #[.val (.int p0), .val (.int p1), .val (.int ((0 : Int32) + (fD p0 (1 : Int32))))] (hb hby d14_14) rfl rfl ?_
      try simp only [if_neg hc1] at h_v2
      subst h_v2
      exact kJ3
  refine Own.iloadN hx p1 (hb hby d14_15) rfl rfl ?_
  refine Own.iconst hx (2 : Int32) (hb hby d14_16) rfl (by decide) ?_
  obtain ⟨v5, h_v5⟩ : ∃ z : Int32, z = (if p1 < (2 : Int32) then v2 else (v2 + (fD p0 (2 : Int32)))) := ⟨_, rfl⟩
  refine Own.Goes.join (mkF m 28 #[.val (.int p0), .val (.int p1), .val (.int v5)] []) (fun kJ6 => ?_) ?_
  · refine Own.icmpF hx (Own.q_lt p1 (2 : Int32)) (hb hby d14_17) (pcN := 20) rfl (by decide) (pcT := 28) rfl (fun hc4 => ?_) (fun hc4 => ?_)
    · try simp only [if_pos hc4] at h_v5
      subst h_v5
      exact kJ6
    · refine Own.iloadN hx v2 (hb hby d14_20) rfl rfl ?_
      refine Own.iloadN hx p0 (hb hby d14_21) rfl rfl ?_
      refine Own.iconst hx (2 : Int32) (hb hby d14_22) rfl (by decide) ?_
      refine Own.callS hx hZ hown (hw _ (wm 107 rfl)) (hw _ (wm 108 rfl)) (hw _ (wm 105 rfl)) (hw _ (wm 109 rfl)) (by decide) pd1 (argsL := [(.int p0), (.int (2 : Int32))]) (rest := [(.int v2)]) rfl (W := 1) (Nat.le_of_eq rfl) (rm := ({ frames := 0, cells := 0, slots := 0, locals := 0 } : Room)) (by decide) (by decide) (by decide) (by decide) (k' := 0) (n' := 0) rfl rfl (by rw [hml]; rfl) [(.int (2 : Int32)), (.int p0), (.int v2)] rfl (hb hby d14_23) (pc' := 26) rfl (rm15 l Z a0 hw p0 (2 : Int32) h0 n0) ?_
      rintro _ h' ⟨rfl, eh⟩
      rw [eh]; clear eh h'
      show Own.Goes _ _ _ _ _ _ _ _ _ _ _ _ _ _ _ _ _ (mkF m 26 #[.val (.int p0), .val (.int p1), .val (.int v2)] [(.int (fD p0 (2 : Int32))), (.int v2)])
      refine Own.iadd hx (hb hby d14_26) rfl ?_
      refine Own.istoreN hx (v2 + (fD p0 (2 : Int32))) rfl #[.val (.int p0), .val (.int p1), .val (.int (v2 + (fD p0 (2 : Int32))))] (hb hby d14_27) rfl rfl ?_
      try simp only [if_neg hc4] at h_v5
      subst h_v5
      exact kJ6
  refine Own.iloadN hx p1 (hb hby d14_28) rfl rfl ?_
  refine Own.iconst hx (3 : Int32) (hb hby d14_29) rfl (by decide) ?_
  obtain ⟨v8, h_v8⟩ : ∃ z : Int32, z = (if p1 < (3 : Int32) then v5 else (v5 + (fD p0 (3 : Int32)))) := ⟨_, rfl⟩
  refine Own.Goes.join (mkF m 41 #[.val (.int p0), .val (.int p1), .val (.int v8)] []) (fun kJ9 => ?_) ?_
  · refine Own.icmpF hx (Own.q_lt p1 (3 : Int32)) (hb hby d14_30) (pcN := 33) rfl (by decide) (pcT := 41) rfl (fun hc7 => ?_) (fun hc7 => ?_)
    · try simp only [if_pos hc7] at h_v8
      subst h_v8
      exact kJ9
    · refine Own.iloadN hx v5 (hb hby d14_33) rfl rfl ?_
      refine Own.iloadN hx p0 (hb hby d14_34) rfl rfl ?_
      refine Own.iconst hx (3 : Int32) (hb hby d14_35) rfl (by decide) ?_
      refine Own.callS hx hZ hown (hw _ (wm 107 rfl)) (hw _ (wm 108 rfl)) (hw _ (wm 105 rfl)) (hw _ (wm 109 rfl)) (by decide) pd1 (argsL := [(.int p0), (.int (3 : Int32))]) (rest := [(.int v5)]) rfl (W := 1) (Nat.le_of_eq rfl) (rm := ({ frames := 0, cells := 0, slots := 0, locals := 0 } : Room)) (by decide) (by decide) (by decide) (by decide) (k' := 0) (n' := 0) rfl rfl (by rw [hml]; rfl) [(.int (3 : Int32)), (.int p0), (.int v5)] rfl (hb hby d14_36) (pc' := 39) rfl (rm15 l Z a0 hw p0 (3 : Int32) h0 n0) ?_
      rintro _ h' ⟨rfl, eh⟩
      rw [eh]; clear eh h'
      show Own.Goes _ _ _ _ _ _ _ _ _ _ _ _ _ _ _ _ _ (mkF m 39 #[.val (.int p0), .val (.int p1), .val (.int v5)] [(.int (fD p0 (3 : Int32))), (.int v5)])
      refine Own.iadd hx (hb hby d14_39) rfl ?_
      refine Own.istoreN hx (v5 + (fD p0 (3 : Int32))) rfl #[.val (.int p0), .val (.int p1), .val (.int (v5 + (fD p0 (3 : Int32))))] (hb hby d14_40) rfl rfl ?_
      try simp only [if_neg hc7] at h_v8
      subst h_v8
      exact kJ9
  refine Own.iloadN hx p1 (hb hby d14_41) rfl rfl ?_
  refine Own.iconst hx (4 : Int32) (hb hby d14_42) rfl (by decide) ?_
  obtain ⟨v11, h_v11⟩ : ∃ z : Int32, z = (if p1 < (4 : Int32) then v8 else (v8 + (fD p0 (4 : Int32)))) := ⟨_, rfl⟩
  refine Own.Goes.join (mkF m 54 #[.val (.int p0), .val (.int p1), .val (.int v11)] []) (fun kJ12 => ?_) ?_
  · refine Own.icmpF hx (Own.q_lt p1 (4 : Int32)) (hb hby d14_43) (pcN := 46) rfl (by decide) (pcT := 54) rfl (fun hc10 => ?_) (fun hc10 => ?_)
    · try simp only [if_pos hc10] at h_v11
      subst h_v11
      exact kJ12
    · refine Own.iloadN hx v8 (hb hby d14_46) rfl rfl ?_
      refine Own.iloadN hx p0 (hb hby d14_47) rfl rfl ?_
      refine Own.iconst hx (4 : Int32) (hb hby d14_48) rfl (by decide) ?_
      refine Own.callS hx hZ hown (hw _ (wm 107 rfl)) (hw _ (wm 108 rfl)) (hw _ (wm 105 rfl)) (hw _ (wm 109 rfl)) (by decide) pd1 (argsL := [(.int p0), (.int (4 : Int32))]) (rest := [(.int v8)]) rfl (W := 1) (Nat.le_of_eq rfl) (rm := ({ frames := 0, cells := 0, slots := 0, locals := 0 } : Room)) (by decide) (by decide) (by decide) (by decide) (k' := 0) (n' := 0) rfl rfl (by rw [hml]; rfl) [(.int (4 : Int32)), (.int p0), (.int v8)] rfl (hb hby d14_49) (pc' := 52) rfl (rm15 l Z a0 hw p0 (4 : Int32) h0 n0) ?_
      rintro _ h' ⟨rfl, eh⟩
      rw [eh]; clear eh h'
      show Own.Goes _ _ _ _ _ _ _ _ _ _ _ _ _ _ _ _ _ (mkF m 52 #[.val (.int p0), .val (.int p1), .val (.int v8)] [(.int (fD p0 (4 : Int32))), (.int v8)])
      refine Own.iadd hx (hb hby d14_52) rfl ?_
      refine Own.istoreN hx (v8 + (fD p0 (4 : Int32))) rfl #[.val (.int p0), .val (.int p1), .val (.int (v8 + (fD p0 (4 : Int32))))] (hb hby d14_53) rfl rfl ?_
      try simp only [if_neg hc10] at h_v11
      subst h_v11
      exact kJ12
  refine Own.iloadN hx v11 (hb hby d14_54) rfl rfl ?_
  exact Own.retI hx hret hlk (hb hby d14_55) (by decide) (by decide) ⟨by subst h_v11 h_v8 h_v5 h_v2; rfl, rfl⟩

theorem pd6 : parseMethodDescriptor "(JLjava/math/BigDecimal;I)V" = some ⟨[.long, (.object "java/math/BigDecimal"), .int], none⟩ := by decide +kernel
theorem pd7 : parseMethodDescriptor "(I)I" = some ⟨[.int], some .int⟩ := by decide +kernel
theorem pn14 : plainFor (⟨"com/example/tracewarden/tracewarden/monitor/WindowEntriesStretchOfPinLaw", "law", "(IIII)Z"⟩ : MethodName) = true := by first | exact plainFor_of_name (by simp [plainName, overriddenIn]; done) | decide +kernel
theorem ef0 (m : MethodId) (x0 : Int32) (x1 : Int32) (x2 : Int32) (x3 : Int32) : entryFrame m #[(.int x0), (.int x1), (.int x2), (.int x3)] maxLocals = mkF m 0 #[.val (.int x0), .val (.int x1), .val (.int x2), .val (.int x3), .unset, .unset, .unset, .unset, .unset, .unset, .unset] [] := by first | (simp [entryFrame, mkF, argsToLocals, Value.category, maxLocals]; done) | rfl
set_option maxRecDepth 65536 in
set_option maxHeartbeats 40000000 in
theorem rm0 (l : Launch) (Z : State) (a0 : Array Value) (hw : ∀ d ∈ tables_1, d.before a0 Z = true) (p0 : Int32) (p1 : Int32) (p2 : Int32) (p3 : Int32) (h0 : Heap) (n0 : Nat)  (O0 : Own.Owns n0 h0 ([]))  : Own.Does l x code maxLocals ret tables_1 room_1 Z #[(.int p0), (.int p1), (.int p2), (.int p3)] h0 n0 (fun v _ => v = some (.int 1)) := by
  refine Own.doesOf pn14 ?_
  intro p e s m below meth c hx hby hml hret hlk hown hnm hZ
  replace hml : c.maxLocals = 11 := hml
  replace hown : s.vm.findClass "com/example/tracewarden/tracewarden/monitor/WindowEntriesStretchOfPinLaw" = some m.cls := hown
  replace hret : meth.sig.returnType = (some .boolean) := hret
  refine Own.Goes.cast (ef0 m p0 p1 p2 p3) ?_
  refine Own.iloadN hx p1 (hb hby at_0) rfl rfl ?_
  refine Own.ldc hx hZ hown (2147483647 : Int32) (hb hby at_1) rfl (hw _ (wm 0 rfl)) ?_
  refine Own.iand hx (hb hby at_3) rfl ?_
  refine Own.iconst hx (5 : Int32) (hb hby at_4) rfl (by decide) ?_
  refine Own.irem hx (hb hby at_5) rfl (by decide) ?_
  obtain ⟨e1, h_e1⟩ : ∃ z : Int32, z = ((p1 &&& (2147483647 : Int32)) % (5 : Int32)) := ⟨_, rfl⟩
  refine Own.istore hx e1 h_e1 #[.val (.int p0), .val (.int p1), .val (.int p2), .val (.int p3), .val (.int e1), .unset, .unset, .unset, .unset, .unset, .unset] (hb hby at_6) rfl rfl ?_
  refine Own.iloadN hx p2 (hb hby at_8) rfl rfl ?_
  refine Own.ldc hx hZ hown (2147483647 : Int32) (hb hby at_9) rfl (hw _ (wm 0 rfl)) ?_
  refine Own.iand hx (hb hby at_11) rfl ?_
  refine Own.iconst hx (5 : Int32) (hb hby at_12) rfl (by decide) ?_
  refine Own.irem hx (hb hby at_13) rfl (by decide) ?_
  obtain ⟨e2, h_e2⟩ : ∃ z : Int32, z = ((p2 &&& (2147483647 : Int32)) % (5 : Int32)) := ⟨_, rfl⟩
  refine Own.istore hx e2 h_e2 #[.val (.int p0), .val (.int p1), .val (.int p2), .val (.int p3), .val (.int e1), .val (.int e2), .unset, .unset, .unset, .unset, .unset] (hb hby at_14) rfl rfl ?_
  refine Own.iloadN hx p3 (hb hby at_16) rfl rfl ?_
  refine Own.ldc hx hZ hown (2147483647 : Int32) (hb hby at_17) rfl (hw _ (wm 0 rfl)) ?_
  refine Own.iand hx (hb hby at_19) rfl ?_
  refine Own.iconst hx (5 : Int32) (hb hby at_20) rfl (by decide) ?_
  refine Own.irem hx (hb hby at_21) rfl (by decide) ?_
  obtain ⟨e3, h_e3⟩ : ∃ z : Int32, z = ((p3 &&& (2147483647 : Int32)) % (5 : Int32)) := ⟨_, rfl⟩
  refine Own.istore hx e3 h_e3 #[.val (.int p0), .val (.int p1), .val (.int p2), .val (.int p3), .val (.int e1), .val (.int e2), .val (.int e3), .unset, .unset, .unset, .unset] (hb hby at_22) rfl rfl ?_
  refine Own.newobj hx hZ hown O0 (hw _ (wm 1 rfl)) (hw _ (wm 2 rfl)) (hw _ (wm 3 rfl)) [(("com/example/tracewarden/tracewarden/monitor/WindowEntries", "cells", "Lcom/example/tracewarden/tracewarden/monitor/Openings;"), .null), (("com/example/tracewarden/tracewarden/monitor/WindowEntries", "counts", "[I"), .null), (("com/example/tracewarden/tracewarden/monitor/WindowEntries", "factors", "[I"), .null), (("com/example/tracewarden/tracewarden/monitor/WindowEntries", "factorsIfLast", "[I"), .null), (("com/example/tracewarden/tracewarden/monitor/WindowEntries", "kept", "[J"), .null), (("com/example/tracewarden/tracewarden/monitor/WindowEntries", "slot", "I"), (.int (0 : Int32))), (("com/example/tracewarden/tracewarden/monitor/WindowEntries", "stretches", "I"), (.int (0 : Int32))), (("com/example/tracewarden/tracewarden/monitor/WindowEntries", "foundStretch", "I"), (.int (0 : Int32))), (("com/example/tracewarden/tracewarden/monitor/WindowEntries", "foundStart", "I"), (.int (0 : Int32)))] (by intro f hf; simp only [List.mem_cons, List.not_mem_nil, or_false] at hf; rcases hf with rfl | rfl | rfl | rfl | rfl | rfl | rfl | rfl | rfl; exact ⟨Or.inr (hw _ (wm 34 rfl)), (.object "com/example/tracewarden/tracewarden/monitor/Openings"), by decide, rfl⟩; exact ⟨Or.inl (hw _ (wm 37 rfl)), (.array .int), by decide, rfl⟩; exact ⟨Or.inl (hw _ (wm 39 rfl)), (.array .int), by decide, rfl⟩; exact ⟨Or.inl (hw _ (wm 41 rfl)), (.array .int), by decide, rfl⟩; exact ⟨Or.inl (hw _ (wm 43 rfl)), (.array .long), by decide, rfl⟩; exact ⟨Or.inr (hw _ (wm 45 rfl)), .int, by decide, rfl⟩; exact ⟨Or.inl (hw _ (wm 56 rfl)), .int, by decide, rfl⟩; exact ⟨Or.inl (hw _ (wm 95 rfl)), .int, by decide, rfl⟩; exact ⟨Or.inl (hw _ (wm 97 rfl)), .int, by decide, rfl⟩) (by decide) (k' := 1) (n' := 9) rfl rfl (by decide) (by decide) (hb hby at_24) (pc' := 27) rfl ?_
  intro a1 h2 O3
  refine Own.dup hx (hb hby at_27) rfl rfl ?_
  refine Own.iconst hx (0 : Int32) (hb hby at_28) rfl (by decide) ?_
  refine Own.callI hx hZ hown rfl (hw _ (wm 4 rfl)) (hw _ (wm 5 rfl)) (hw _ (wm 3 rfl)) (hw _ (wm 6 rfl)) (by decide) pd3 (argsL := [(.int (0 : Int32))]) (rest := [(.ref a1)]) rfl (W := 1) (Nat.le_of_eq rfl) (rm := ({ frames := 3, cells := 8, slots := 71, locals := 40 } : Room)) (by decide) (by decide) (by decide) (by decide) (k' := 9) (n' := 80) rfl rfl (by rw [hml]; rfl) [(.int (0 : Int32)), (.ref a1), (.ref a1)] rfl (hb hby at_29) (pc' := 32) rfl (rm1 l Z a0 hw a1 h2 n0 ([]) O3) ?_
  rintro _ h12 ⟨oc4, of5, ol6, ok7, op8, ra9, rb10, rt11, rfl, O13⟩
  show Own.Goes _ _ _ _ _ _ _ _ _ _ _ _ _ _ _ _ _ (mkF m 32 #[.val (.int p0), .val (.int p1), .val (.int p2), .val (.int p3), .val (.int e1), .val (.int e2), .val (.int e3), .unset, .unset, .unset, .unset] [(.ref a1)])
  refine Own.astore hx #[.val (.int p0), .val (.int p1), .val (.int p2), .val (.int p3), .val (.int e1), .val (.int e2), .val (.int e3), .val (.ref a1), .unset, .unset, .unset] (hb hby at_32) rfl rfl rfl ?_
  refine Own.aload hx (.ref a1) (hb hby at_34) rfl rfl rfl ?_
  refine Own.lconst hx (0 : Int64) (hb hby at_36) rfl (by decide) ?_
  refine Own.aconstNull hx (hb hby at_37) rfl ?_
  refine Own.iconst hx (1 : Int32) (hb hby at_38) rfl (by decide) ?_
  refine Own.iloadN hx p0 (hb hby at_39) rfl rfl ?_
  refine Own.iconst hx (1 : Int32) (hb hby at_40) rfl (by decide) ?_
  refine Own.iand hx (hb hby at_41) rfl ?_
  refine Own.iadd hx (hb hby at_42) rfl ?_
  obtain ⟨F0, h_F0⟩ : ∃ z : Int32, z = ((1 : Int32) + (p0 &&& (1 : Int32))) := ⟨_, rfl⟩
  refine Own.vI F0 h_F0.symm ?_
  refine Own.callV hx hZ hown (O13.exa (i := 0) rfl) (hw _ (wm 46 rfl)) (hw _ (wm 47 rfl)) (hw _ (wm 49 rfl)) (hw _ (wm 48 rfl)) (hw _ (wm 3 rfl)) (hw _ (wm 50 rfl)) (by decide) pd6 (argsL := [(.long (0 : Int64)), .null, (.int F0)]) (rest := []) rfl (W := 0) (Nat.le_of_eq rfl) (rm := ({ frames := 2, cells := 0, slots := 0, locals := 30 } : Room)) (by decide) (by decide) (by decide) (by decide) (k' := 9) (n' := 80) rfl rfl (by rw [hml]; rfl) [(.int F0), .null, (.long (0 : Int64)), (.ref a1)] rfl (hb hby at_43) (pc' := 46) rfl (rm5_0 l Z a0 hw a1 F0 h12 n0 oc4 of5 ol6 ok7 op8 ra9 rb10 rt11 ([]) O13) ?_
  rintro _ h17 ⟨oc14, of15, ol16, rfl, O18⟩
  show Own.Goes _ _ _ _ _ _ _ _ _ _ _ _ _ _ _ _ _ (mkF m 46 #[.val (.int p0), .val (.int p1), .val (.int p2), .val (.int p3), .val (.int e1), .val (.int e2), .val (.int e3), .val (.ref a1), .unset, .unset, .unset] [])
  refine Own.aload hx (.ref a1) (hb hby at_46) rfl rfl rfl ?_
  refine Own.lconst hx (1 : Int64) (hb hby at_48) rfl (by decide) ?_
  refine Own.aconstNull hx (hb hby at_49) rfl ?_
  refine Own.iconst hx (1 : Int32) (hb hby at_50) rfl (by decide) ?_
  refine Own.iloadN hx p0 (hb hby at_51) rfl rfl ?_
  refine Own.iconst hx (1 : Int32) (hb hby at_52) rfl (by decide) ?_
  refine Own.iushr hx (hb hby at_53) rfl ?_
  refine Own.iconst hx (1 : Int32) (hb hby at_54) rfl (by decide) ?_
  refine Own.iand hx (hb hby at_55) rfl ?_
  refine Own.iadd hx (hb hby at_56) rfl ?_
  obtain ⟨F1, h_F1⟩ : ∃ z : Int32, z = ((1 : Int32) + ((p0.toUInt32 >>> ((1 : Int32) &&& 31).toUInt32).toInt32 &&& (1 : Int32))) := ⟨_, rfl⟩
  refine Own.vI F1 h_F1.symm ?_
  refine Own.callV hx hZ hown (O18.exa (i := 0) rfl) (hw _ (wm 46 rfl)) (hw _ (wm 47 rfl)) (hw _ (wm 49 rfl)) (hw _ (wm 48 rfl)) (hw _ (wm 3 rfl)) (hw _ (wm 50 rfl)) (by decide) pd6 (argsL := [(.long (1 : Int64)), .null, (.int F1)]) (rest := []) rfl (W := 0) (Nat.le_of_eq rfl) (rm := ({ frames := 2, cells := 0, slots := 0, locals := 30 } : Room)) (by decide) (by decide) (by decide) (by decide) (k' := 9) (n' := 80) rfl rfl (by rw [hml]; rfl) [(.int F1), .null, (.long (1 : Int64)), (.ref a1)] rfl (hb hby at_57) (pc' := 60) rfl (rm5_1 l Z a0 hw a1 F1 h17 n0 oc14 of15 ol16 ok7 op8 ra9 rb10 rt11 F0 ([]) O18) ?_
  rintro _ h22 ⟨oc19, of20, ol21, rfl, O23⟩
  show Own.Goes _ _ _ _ _ _ _ _ _ _ _ _ _ _ _ _ _ (mkF m 60 #[.val (.int p0), .val (.int p1), .val (.int p2), .val (.int p3), .val (.int e1), .val (.int e2), .val (.int e3), .val (.ref a1), .unset, .unset, .unset] [])
  refine Own.aload hx (.ref a1) (hb hby at_60) rfl rfl rfl ?_
  refine Own.ldc2 hx hZ hown (2 : Int64) (hb hby at_62) rfl (hw _ (wm 70 rfl)) ?_
  refine Own.aconstNull hx (hb hby at_65) rfl ?_
  refine Own.iconst hx (1 : Int32) (hb hby at_66) rfl (by decide) ?_
  refine Own.iloadN hx p0 (hb hby at_67) rfl rfl ?_
  refine Own.iconst hx (2 : Int32) (hb hby at_68) rfl (by decide) ?_
  refine Own.iushr hx (hb hby at_69) rfl ?_
  refine Own.iconst hx (1 : Int32) (hb hby at_70) rfl (by decide) ?_
  refine Own.iand hx (hb hby at_71) rfl ?_
  refine Own.iadd hx (hb hby at_72) rfl ?_
  obtain ⟨F2, h_F2⟩ : ∃ z : Int32, z = ((1 : Int32) + ((p0.toUInt32 >>> ((2 : Int32) &&& 31).toUInt32).toInt32 &&& (1 : Int32))) := ⟨_, rfl⟩
  refine Own.vI F2 h_F2.symm ?_
  refine Own.callV hx hZ hown (O23.exa (i := 0) rfl) (hw _ (wm 46 rfl)) (hw _ (wm 47 rfl)) (hw _ (wm 49 rfl)) (hw _ (wm 48 rfl)) (hw _ (wm 3 rfl)) (hw _ (wm 50 rfl)) (by decide) pd6 (argsL := [(.long (2 : Int64)), .null, (.int F2)]) (rest := []) rfl (W := 0) (Nat.le_of_eq rfl) (rm := ({ frames := 2, cells := 0, slots := 0, locals := 30 } : Room)) (by decide) (by decide) (by decide) (by decide) (k' := 9) (n' := 80) rfl rfl (by rw [hml]; rfl) [(.int F2), .null, (.long (2 : Int64)), (.ref a1)] rfl (hb hby at_73) (pc' := 76) rfl (rm5_2 l Z a0 hw a1 F2 h22 n0 oc19 of20 ol21 ok7 op8 ra9 rb10 rt11 F0 F1 ([]) O23) ?_
  rintro _ h27 ⟨oc24, of25, ol26, rfl, O28⟩
  show Own.Goes _ _ _ _ _ _ _ _ _ _ _ _ _ _ _ _ _ (mkF m 76 #[.val (.int p0), .val (.int p1), .val (.int p2), .val (.int p3), .val (.int e1), .val (.int e2), .val (.int e3), .val (.ref a1), .unset, .unset, .unset] [])
  refine Own.aload hx (.ref a1) (hb hby at_76) rfl rfl rfl ?_
  refine Own.ldc2 hx hZ hown (3 : Int64) (hb hby at_78) rfl (hw _ (wm 71 rfl)) ?_
  refine Own.aconstNull hx (hb hby at_81) rfl ?_
  refine Own.iconst hx (1 : Int32) (hb hby at_82) rfl (by decide) ?_
  refine Own.iloadN hx p0 (hb hby at_83) rfl rfl ?_
  refine Own.iconst hx (3 : Int32) (hb hby at_84) rfl (by decide) ?_
  refine Own.iushr hx (hb hby at_85) rfl ?_
  refine Own.iconst hx (1 : Int32) (hb hby at_86) rfl (by decide) ?_
  refine Own.iand hx (hb hby at_87) rfl ?_
  refine Own.iadd hx (hb hby at_88) rfl ?_
  obtain ⟨F3, h_F3⟩ : ∃ z : Int32, z = ((1 : Int32) + ((p0.toUInt32 >>> ((3 : Int32) &&& 31).toUInt32).toInt32 &&& (1 : Int32))) := ⟨_, rfl⟩
  refine Own.vI F3 h_F3.symm ?_
  refine Own.callV hx hZ hown (O28.exa (i := 0) rfl) (hw _ (wm 46 rfl)) (hw _ (wm 47 rfl)) (hw _ (wm 49 rfl)) (hw _ (wm 48 rfl)) (hw _ (wm 3 rfl)) (hw _ (wm 50 rfl)) (by decide) pd6 (argsL := [(.long (3 : Int64)), .null, (.int F3)]) (rest := []) rfl (W := 0) (Nat.le_of_eq rfl) (rm := ({ frames := 2, cells := 0, slots := 0, locals := 30 } : Room)) (by decide) (by decide) (by decide) (by decide) (k' := 9) (n' := 80) rfl rfl (by rw [hml]; rfl) [(.int F3), .null, (.long (3 : Int64)), (.ref a1)] rfl (hb hby at_89) (pc' := 92) rfl (rm5_3 l Z a0 hw a1 F3 h27 n0 oc24 of25 ol26 ok7 op8 ra9 rb10 rt11 F0 F1 F2 ([]) O28) ?_
  rintro _ h32 ⟨oc29, of30, ol31, rfl, O33⟩
  show Own.Goes _ _ _ _ _ _ _ _ _ _ _ _ _ _ _ _ _ (mkF m 92 #[.val (.int p0), .val (.int p1), .val (.int p2), .val (.int p3), .val (.int e1), .val (.int e2), .val (.int e3), .val (.ref a1), .unset, .unset, .unset] [])
  refine Own.aload hx (.ref a1) (hb hby at_92) rfl rfl rfl ?_
  refine Own.ldc2 hx hZ hown (4 : Int64) (hb hby at_94) rfl (hw _ (wm 72 rfl)) ?_
  refine Own.aconstNull hx (hb hby at_97) rfl ?_
  refine Own.iconst hx (1 : Int32) (hb hby at_98) rfl (by decide) ?_
  refine Own.iloadN hx p0 (hb hby at_99) rfl rfl ?_
  refine Own.iconst hx (4 : Int32) (hb hby at_100) rfl (by decide) ?_
  refine Own.iushr hx (hb hby at_101) rfl ?_
  refine Own.iconst hx (1 : Int32) (hb hby at_102) rfl (by decide) ?_
  refine Own.iand hx (hb hby at_103) rfl ?_
  refine Own.iadd hx (hb hby at_104) rfl ?_
  obtain ⟨F4, h_F4⟩ : ∃ z : Int32, z = ((1 : Int32) + ((p0.toUInt32 >>> ((4 : Int32) &&& 31).toUInt32).toInt32 &&& (1 : Int32))) := ⟨_, rfl⟩
  refine Own.vI F4 h_F4.symm ?_
  refine Own.callV hx hZ hown (O33.exa (i := 0) rfl) (hw _ (wm 46 rfl)) (hw _ (wm 47 rfl)) (hw _ (wm 49 rfl)) (hw _ (wm 48 rfl)) (hw _ (wm 3 rfl)) (hw _ (wm 50 rfl)) (by decide) pd6 (argsL := [(.long (4 : Int64)), .null, (.int F4)]) (rest := []) rfl (W := 0) (Nat.le_of_eq rfl) (rm := ({ frames := 3, cells := 3, slots := 24, locals := 48 } : Room)) (by decide) (by decide) (by decide) (by decide) (k' := 12) (n' := 104) rfl rfl (by rw [hml]; rfl) [(.int F4), .null, (.long (4 : Int64)), (.ref a1)] rfl (hb hby at_105) (pc' := 108) rfl (rm5_4 l Z a0 hw a1 F4 h32 n0 oc29 of30 ol31 ok7 op8 ra9 rb10 rt11 F0 F1 F2 F3 ([]) O33) ?_
  rintro _ h37 ⟨oc34, of35, ol36, rfl, O38⟩
  show Own.Goes _ _ _ _ _ _ _ _ _ _ _ _ _ _ _ _ _ (mkF m 108 #[.val (.int p0), .val (.int p1), .val (.int p2), .val (.int p3), .val (.int e1), .val (.int e2), .val (.int e3), .val (.ref a1), .unset, .unset, .unset] [])
  refine Own.aload hx (.ref a1) (hb hby at_108) rfl rfl rfl ?_
  refine Own.iconst hx (0 : Int32) (hb hby at_110) rfl (by decide) ?_
  refine Own.callV hx hZ hown (O38.exa (i := 0) rfl) (hw _ (wm 85 rfl)) (hw _ (wm 86 rfl)) (hw _ (wm 88 rfl)) (hw _ (wm 87 rfl)) (hw _ (wm 3 rfl)) (hw _ (wm 89 rfl)) (by decide) pd3 (argsL := [(.int (0 : Int32))]) (rest := []) rfl (W := 0) (Nat.le_of_eq rfl) (rm := ({ frames := 1, cells := 1, slots := 10, locals := 12 } : Room)) (by decide) (by decide) (by decide) (by decide) (k' := 13) (n' := 114) rfl rfl (by rw [hml]; rfl) [(.int (0 : Int32)), (.ref a1)] rfl (hb hby at_111) (pc' := 114) rfl (rm11 l Z a0 hw a1 h37 n0 op8 oc34 of35 ol36 ok7 F0 F1 F2 F3 F4 ((op8, OPo Z (.ref ra9) (.ref rb10) (iI (-1)) (iI (-1)) (.ref rt11) (iI 5) (iI 0)) :: (ra9, Own.ArrC Z .long [(jJ 0), (jJ 1), (jJ 2), (jJ 3), (jJ 4), (jJ 0), (jJ 0), (jJ 0), (jJ 0), (jJ 0), (jJ 0), (jJ 0), (jJ 0), (jJ 0), (jJ 0), (jJ 0)]) :: (rb10, Own.ArrC Z .long [(jJ 0), (jJ 1), (jJ 2), (jJ 3), (jJ 4), (jJ 0), (jJ 0), (jJ 0), (jJ 0), (jJ 0), (jJ 0), (jJ 0), (jJ 0), (jJ 0), (jJ 0), (jJ 0)]) :: (rt11, Own.ArrC Z (.object "java/math/BigDecimal") [.null, .null, .null, .null, .null, .null, .null, .null, .null, .null, .null, .null, .null, .null, .null, .null]) :: []) O38 (own_Fnz h_F0) (own_Fnz h_F1) (own_Fnz h_F2) (own_Fnz h_F3) (own_Fnz h_F4)) ?_
  rintro _ h42 ⟨cs39, js40, ok41, rfl, hG, O43⟩
  show Own.Goes _ _ _ _ _ _ _ _ _ _ _ _ _ _ _ _ _ (mkF m 114 #[.val (.int p0), .val (.int p1), .val (.int p2), .val (.int p3), .val (.int e1), .val (.int e2), .val (.int e3), .val (.ref a1), .unset, .unset, .unset] [])
  obtain ⟨hlen, hp5, hp9⟩ := good_len hG
  obtain ⟨en1, hen1, hlt1⟩ := own_en h_e1
  obtain ⟨en2, hen2, hlt2⟩ := own_en h_e2
  obtain ⟨en3, hen3, hlt3⟩ := own_en h_e3
  have O44 : Own.Owns n0 h42 ((a1, WEo Z (.ref op8) (.ref oc34) (.ref of35) (.ref ol36) (.ref ok41) (iI 0) (.int js40) (.int (0 : Nat).toInt32) (.int (pre cs39 0).toInt32)) :: (oc34, Own.ArrC Z .int (cs39.map gI)) :: (op8, OPo Z (.ref ra9) (.ref rb10) (iI (-1)) (iI (-1)) (.ref rt11) (iI 5) (iI 0)) :: (ra9, Own.ArrC Z .long [(jJ 0), (jJ 1), (jJ 2), (jJ 3), (jJ 4), (jJ 0), (jJ 0), (jJ 0), (jJ 0), (jJ 0), (jJ 0), (jJ 0), (jJ 0), (jJ 0), (jJ 0), (jJ 0)]) :: (rb10, Own.ArrC Z .long [(jJ 0), (jJ 1), (jJ 2), (jJ 3), (jJ 4), (jJ 0), (jJ 0), (jJ 0), (jJ 0), (jJ 0), (jJ 0), (jJ 0), (jJ 0), (jJ 0), (jJ 0), (jJ 0)]) :: (rt11, Own.ArrC Z (.object "java/math/BigDecimal") [.null, .null, .null, .null, .null, .null, .null, .null, .null, .null, .null, .null, .null, .null, .null, .null]) :: []) := O43
  refine Own.aload hx (.ref a1) (hb hby at_114) rfl rfl rfl ?_
  refine Own.iload hx e1 (hb hby at_116) rfl rfl ?_
  refine Own.callV hx hZ hown (O44.exa (i := 0) rfl) (hw _ (wm 98 rfl)) (hw _ (wm 99 rfl)) (hw _ (wm 101 rfl)) (hw _ (wm 100 rfl)) (hw _ (wm 3 rfl)) (hw _ (wm 102 rfl)) (by decide) pd7 (argsL := [(.int e1)]) (rest := []) rfl (W := 0) (Nat.le_of_eq rfl) (rm := ({ frames := 0, cells := 0, slots := 0, locals := 0 } : Room)) (by decide) (by decide) (by decide) (by decide) (k' := 13) (n' := 114) rfl rfl (by rw [hml]; rfl) [(.int e1), (.ref a1)] rfl (hb hby at_118) (pc' := 121) rfl (rm13 l Z a0 hw a1 e1 h42 n0 op8 oc34 of35 ol36 ok41 js40 cs39 en1 0 hlen hp9 hen1 (by omega) (by decide) ((op8, OPo Z (.ref ra9) (.ref rb10) (iI (-1)) (iI (-1)) (.ref rt11) (iI 5) (iI 0)) :: (ra9, Own.ArrC Z .long [(jJ 0), (jJ 1), (jJ 2), (jJ 3), (jJ 4), (jJ 0), (jJ 0), (jJ 0), (jJ 0), (jJ 0), (jJ 0), (jJ 0), (jJ 0), (jJ 0), (jJ 0), (jJ 0)]) :: (rb10, Own.ArrC Z .long [(jJ 0), (jJ 1), (jJ 2), (jJ 3), (jJ 4), (jJ 0), (jJ 0), (jJ 0), (jJ 0), (jJ 0), (jJ 0), (jJ 0), (jJ 0), (jJ 0), (jJ 0), (jJ 0)]) :: (rt11, Own.ArrC Z (.object "java/math/BigDecimal") [.null, .null, .null, .null, .null, .null, .null, .null, .null, .null, .null, .null, .null, .null, .null, .null]) :: []) O44) ?_
  rintro _ h45 ⟨s1, rfl, ha1, hb1, O46⟩
  show Own.Goes _ _ _ _ _ _ _ _ _ _ _ _ _ _ _ _ _ (mkF m 121 #[.val (.int p0), .val (.int p1), .val (.int p2), .val (.int p3), .val (.int e1), .val (.int e2), .val (.int e3), .val (.ref a1), .unset, .unset, .unset] [(.int s1.toInt32)])
  obtain ⟨r1x, h_r1x⟩ : ∃ z : Int32, z = s1.toInt32 := ⟨_, rfl⟩
  refine Own.istore hx r1x h_r1x #[.val (.int p0), .val (.int p1), .val (.int p2), .val (.int p3), .val (.int e1), .val (.int e2), .val (.int e3), .val (.ref a1), .val (.int r1x), .unset, .unset] (hb hby at_121) rfl rfl ?_
  refine Own.aload hx (.ref a1) (hb hby at_123) rfl rfl rfl ?_
  refine Own.iload hx e2 (hb hby at_125) rfl rfl ?_
  refine Own.callV hx hZ hown (O46.exa (i := 0) rfl) (hw _ (wm 98 rfl)) (hw _ (wm 99 rfl)) (hw _ (wm 101 rfl)) (hw _ (wm 100 rfl)) (hw _ (wm 3 rfl)) (hw _ (wm 102 rfl)) (by decide) pd7 (argsL := [(.int e2)]) (rest := []) rfl (W := 0) (Nat.le_of_eq rfl) (rm := ({ frames := 0, cells := 0, slots := 0, locals := 0 } : Room)) (by decide) (by decide) (by decide) (by decide) (k' := 13) (n' := 114) rfl rfl (by rw [hml]; rfl) [(.int e2), (.ref a1)] rfl (hb hby at_127) (pc' := 130) rfl (rm13 l Z a0 hw a1 e2 h45 n0 op8 oc34 of35 ol36 ok41 js40 cs39 en2 s1 hlen hp9 hen2 (by omega) (Nat.le_of_lt (fs_lt hlen ha1 (by omega))) ((op8, OPo Z (.ref ra9) (.ref rb10) (iI (-1)) (iI (-1)) (.ref rt11) (iI 5) (iI 0)) :: (ra9, Own.ArrC Z .long [(jJ 0), (jJ 1), (jJ 2), (jJ 3), (jJ 4), (jJ 0), (jJ 0), (jJ 0), (jJ 0), (jJ 0), (jJ 0), (jJ 0), (jJ 0), (jJ 0), (jJ 0), (jJ 0)]) :: (rb10, Own.ArrC Z .long [(jJ 0), (jJ 1), (jJ 2), (jJ 3), (jJ 4), (jJ 0), (jJ 0), (jJ 0), (jJ 0), (jJ 0), (jJ 0), (jJ 0), (jJ 0), (jJ 0), (jJ 0), (jJ 0)]) :: (rt11, Own.ArrC Z (.object "java/math/BigDecimal") [.null, .null, .null, .null, .null, .null, .null, .null, .null, .null, .null, .null, .null, .null, .null, .null]) :: []) O46) ?_
  rintro _ h47 ⟨s2, rfl, ha2, hb2, O48⟩
  show Own.Goes _ _ _ _ _ _ _ _ _ _ _ _ _ _ _ _ _ (mkF m 130 #[.val (.int p0), .val (.int p1), .val (.int p2), .val (.int p3), .val (.int e1), .val (.int e2), .val (.int e3), .val (.ref a1), .val (.int r1x), .unset, .unset] [(.int s2.toInt32)])
  obtain ⟨r2x, h_r2x⟩ : ∃ z : Int32, z = s2.toInt32 := ⟨_, rfl⟩
  refine Own.istore hx r2x h_r2x #[.val (.int p0), .val (.int p1), .val (.int p2), .val (.int p3), .val (.int e1), .val (.int e2), .val (.int e3), .val (.ref a1), .val (.int r1x), .val (.int r2x), .unset] (hb hby at_130) rfl rfl ?_
  refine Own.aload hx (.ref a1) (hb hby at_132) rfl rfl rfl ?_
  refine Own.iload hx e3 (hb hby at_134) rfl rfl ?_
  refine Own.callV hx hZ hown (O48.exa (i := 0) rfl) (hw _ (wm 98 rfl)) (hw _ (wm 99 rfl)) (hw _ (wm 101 rfl)) (hw _ (wm 100 rfl)) (hw _ (wm 3 rfl)) (hw _ (wm 102 rfl)) (by decide) pd7 (argsL := [(.int e3)]) (rest := []) rfl (W := 0) (Nat.le_of_eq rfl) (rm := ({ frames := 0, cells := 0, slots := 0, locals := 0 } : Room)) (by decide) (by decide) (by decide) (by decide) (k' := 13) (n' := 114) rfl rfl (by rw [hml]; rfl) [(.int e3), (.ref a1)] rfl (hb hby at_136) (pc' := 139) rfl (rm13 l Z a0 hw a1 e3 h47 n0 op8 oc34 of35 ol36 ok41 js40 cs39 en3 s2 hlen hp9 hen3 (by omega) (Nat.le_of_lt (fs_lt hlen ha2 (by omega))) ((op8, OPo Z (.ref ra9) (.ref rb10) (iI (-1)) (iI (-1)) (.ref rt11) (iI 5) (iI 0)) :: (ra9, Own.ArrC Z .long [(jJ 0), (jJ 1), (jJ 2), (jJ 3), (jJ 4), (jJ 0), (jJ 0), (jJ 0), (jJ 0), (jJ 0), (jJ 0), (jJ 0), (jJ 0), (jJ 0), (jJ 0), (jJ 0)]) :: (rb10, Own.ArrC Z .long [(jJ 0), (jJ 1), (jJ 2), (jJ 3), (jJ 4), (jJ 0), (jJ 0), (jJ 0), (jJ 0), (jJ 0), (jJ 0), (jJ 0), (jJ 0), (jJ 0), (jJ 0), (jJ 0)]) :: (rt11, Own.ArrC Z (.object "java/math/BigDecimal") [.null, .null, .null, .null, .null, .null, .null, .null, .null, .null, .null, .null, .null, .null, .null, .null]) :: []) O48) ?_
  rintro _ h49 ⟨s3, rfl, ha3, hb3, O50⟩
  show Own.Goes _ _ _ _ _ _ _ _ _ _ _ _ _ _ _ _ _ (mkF m 139 #[.val (.int p0), .val (.int p1), .val (.int p2), .val (.int p3), .val (.int e1), .val (.int e2), .val (.int e3), .val (.ref a1), .val (.int r1x), .val (.int r2x), .unset] [(.int s3.toInt32)])
  obtain ⟨r3x, h_r3x⟩ : ∃ z : Int32, z = s3.toInt32 := ⟨_, rfl⟩
  refine Own.istore hx r3x h_r3x #[.val (.int p0), .val (.int p1), .val (.int p2), .val (.int p3), .val (.int e1), .val (.int e2), .val (.int e3), .val (.ref a1), .val (.int r1x), .val (.int r2x), .val (.int r3x)] (hb hby at_139) rfl rfl ?_
  refine Own.iload hx r1x (hb hby at_141) rfl rfl ?_
  refine Own.iloadN hx p0 (hb hby at_143) rfl rfl ?_
  refine Own.iload hx e1 (hb hby at_144) rfl rfl ?_
  refine Own.callS hx hZ hown (hw _ (wm 103 rfl)) (hw _ (wm 104 rfl)) (hw _ (wm 105 rfl)) (hw _ (wm 106 rfl)) (by decide) pd1 (argsL := [(.int p0), (.int e1)]) (rest := [(.int r1x)]) rfl (W := 1) (Nat.le_of_eq rfl) (rm := ({ frames := 1, cells := 0, slots := 0, locals := 14 } : Room)) (by decide) (by decide) (by decide) (by decide) (k' := 13) (n' := 114) rfl rfl (by rw [hml]; rfl) [(.int e1), (.int p0), (.int r1x)] rfl (hb hby at_146) (pc' := 149) rfl (rm14 l Z a0 hw p0 e1 h49 n0) ?_
  rintro _ h' ⟨rfl, eh⟩
  rw [eh]; clear eh h'
  show Own.Goes _ _ _ _ _ _ _ _ _ _ _ _ _ _ _ _ _ (mkF m 149 #[.val (.int p0), .val (.int p1), .val (.int p2), .val (.int p3), .val (.int e1), .val (.int e2), .val (.int e3), .val (.ref a1), .val (.int r1x), .val (.int r2x), .val (.int r3x)] [(.int (fRef p0 e1)), (.int r1x)])
  have hc51 : r1x = (fRef p0 e1) := by rw [own_ref h_F0 h_F1 h_F2 h_F3 h_F4 hen1 hlt1, ← good_at hG hlt1 ha1 hb1]; exact h_r1x
  refine Own.icmpFn hx (Own.q_ne r1x (fRef p0 e1)) (hb hby at_149) (pcN := 152) rfl (by decide) (pcT := 178) rfl (fun q => absurd hc51 q) (fun _ => ?_)
  refine Own.iload hx r2x (hb hby at_152) rfl rfl ?_
  refine Own.iloadN hx p0 (hb hby at_154) rfl rfl ?_
  refine Own.iload hx e2 (hb hby at_155) rfl rfl ?_
  refine Own.callS hx hZ hown (hw _ (wm 103 rfl)) (hw _ (wm 104 rfl)) (hw _ (wm 105 rfl)) (hw _ (wm 106 rfl)) (by decide) pd1 (argsL := [(.int p0), (.int e2)]) (rest := [(.int r2x)]) rfl (W := 1) (Nat.le_of_eq rfl) (rm := ({ frames := 1, cells := 0, slots := 0, locals := 14 } : Room)) (by decide) (by decide) (by decide) (by decide) (k' := 13) (n' := 114) rfl rfl (by rw [hml]; rfl) [(.int e2), (.int p0), (.int r2x)] rfl (hb hby at_157) (pc' := 160) rfl (rm14 l Z a0 hw p0 e2 h49 n0) ?_
  rintro _ h' ⟨rfl, eh⟩
  rw [eh]; clear eh h'
  show Own.Goes _ _ _ _ _ _ _ _ _ _ _ _ _ _ _ _ _ (mkF m 160 #[.val (.int p0), .val (.int p1), .val (.int p2), .val (.int p3), .val (.int e1), .val (.int e2), .val (.int e3), .val (.ref a1), .val (.int r1x), .val (.int r2x), .val (.int r3x)] [(.int (fRef p0 e2)), (.int r2x)])
  have hc53 : r2x = (fRef p0 e2) := by rw [own_ref h_F0 h_F1 h_F2 h_F3 h_F4 hen2 hlt2, ← good_at hG hlt2 ha2 hb2]; exact h_r2x
  refine Own.icmpFn hx (Own.q_ne r2x (fRef p0 e2)) (hb hby at_160) (pcN := 163) rfl (by decide) (pcT := 178) rfl (fun q => absurd hc53 q) (fun _ => ?_)
  refine Own.iload hx r3x (hb hby at_163) rfl rfl ?_
  refine Own.iloadN hx p0 (hb hby at_165) rfl rfl ?_
  refine Own.iload hx e3 (hb hby at_166) rfl rfl ?_
  refine Own.callS hx hZ hown (hw _ (wm 103 rfl)) (hw _ (wm 104 rfl)) (hw _ (wm 105 rfl)) (hw _ (wm 106 rfl)) (by decide) pd1 (argsL := [(.int p0), (.int e3)]) (rest := [(.int r3x)]) rfl (W := 1) (Nat.le_of_eq rfl) (rm := ({ frames := 1, cells := 0, slots := 0, locals := 14 } : Room)) (by decide) (by decide) (by decide) (by decide) (k' := 13) (n' := 114) rfl rfl (by rw [hml]; rfl) [(.int e3), (.int p0), (.int r3x)] rfl (hb hby at_168) (pc' := 171) rfl (rm14 l Z a0 hw p0 e3 h49 n0) ?_
  rintro _ h' ⟨rfl, eh⟩
  rw [eh]; clear eh h'
  show Own.Goes _ _ _ _ _ _ _ _ _ _ _ _ _ _ _ _ _ (mkF m 171 #[.val (.int p0), .val (.int p1), .val (.int p2), .val (.int p3), .val (.int e1), .val (.int e2), .val (.int e3), .val (.ref a1), .val (.int r1x), .val (.int r2x), .val (.int r3x)] [(.int (fRef p0 e3)), (.int r3x)])
  have hc55 : r3x = (fRef p0 e3) := by rw [own_ref h_F0 h_F1 h_F2 h_F3 h_F4 hen3 hlt3, ← good_at hG hlt3 ha3 hb3]; exact h_r3x
  refine Own.icmpFn hx (Own.q_ne r3x (fRef p0 e3)) (hb hby at_171) (pcN := 174) rfl (by decide) (pcT := 178) rfl (fun q => absurd hc55 q) (fun _ => ?_)
  refine Own.iconst hx (1 : Int32) (hb hby at_174) rfl (by decide) ?_
  refine Own.goto hx (hb hby at_175) (by decide) (pc' := 179) rfl ?_
  exact Own.retS hx hret (by simp) hlk (hb hby at_179) (by decide) (by decide) (Own.bool1 rfl)

set_option maxRecDepth 65536 in
set_option maxHeartbeats 40000000 in
theorem comes_1 {Post : Tables → Env → Array Value → State → Outcome → State → Prop} (hpost : ∀ tb e args s v u, (limb_1_1.after args s (.returned v) u = true ∧ limb_1_2.after args s (.returned v) u = true ∧ True) → FrameEnd s (.returned v) u (Jvm.fieldLocs frame_1_writes args s ++ Jvm.arrayLocs frame_1_arrays args s ++ Jvm.staticLocs frame_1_statics s) 40 320 → Post tb e args s (.returned v) u) :
    ArmFor flags0 classFile x code maxLocals ret World_1 tables_1 room_1 Calls_1 rest_1 Pre_1 Post := by
  intro l hfl _ _ p e ha hc hk s m args below hf hA hF happ hP
  obtain ⟨hcalls, hrest, hpre⟩ := hP
  obtain ⟨-, -, -, hnamed, -, -, -, hat⟩ := (Spec.applies_iff hf).mp happ
  obtain ⟨hg, hn⟩ := and_e (Cond.before_iff.mp (show (Jvm.Cond.and given_1 narrow_1).before args s = true from hpre))
  obtain ⟨h1, g0⟩ := and_e hg
  obtain ⟨q0, g1⟩ := and_e g0
  obtain ⟨q1, g2⟩ := and_e g1
  obtain ⟨q2, g3⟩ := and_e g2
  have q3 := g3
  obtain ⟨w0, w1, w2, w3, rfl⟩ : ∃ w0 w1 w2 w3 : Value, args = #[w0, w1, w2, w3] := by
    have hs : args.size = 4 := by simpa [Cond.value, given_1] using h1
    obtain ⟨L⟩ := args
    match L, hs with
    | [w0, w1, w2, w3], _ => exact ⟨w0, w1, w2, w3, rfl⟩
  have hw := fun d (hd : d ∈ tables_1) => atoms_spec (ws := Jvm.Cond.code x code maxLocals ret :: tables_1) hat d (List.mem_cons_of_mem _ hd)
  obtain ⟨i0, e0⟩ := is_v q0
  obtain rfl : w0 = (.int i0) := Option.some.inj e0
  obtain ⟨i1, e1⟩ := is_v q1
  obtain rfl : w1 = (.int i1) := Option.some.inj e1
  obtain ⟨i2, e2⟩ := is_v q2
  obtain rfl : w2 = (.int i2) := Option.some.inj e2
  obtain ⟨i3, e3⟩ := is_v q3
  obtain rfl : w3 = (.int i3) := Option.some.inj e3
  obtain ⟨n, o, h1, h2, h3, _, L, rfl, ⟨rfl, N⟩, hq⟩ := rm0 l s _ hw i0 i1 i2 i3 s.heap s.heap.size (Own.Owns.nil (Nat.le_refl _)) p e ha hc hk s m _ below hf ((Spec.applies_iff_loose hf).mp happ).1 ⟨rfl, State.Warmed39.refl s, rfl⟩ trivial
  refine ⟨n, _, h1, h2, h3, hpost _ _ _ _ _ _ ⟨Cond.after_iff.mpr rfl, Cond.after_iff.mpr (eq_i res_at (Term.int_eval (1)) rfl), trivial⟩ ⟨hq.1, hq.2.1, (hq.2.2.sift fun y hy => Or.inr (N y hy)).mono (by decide) (by decide)⟩⟩
theorem main_1_1 : Claimed_1_1 := comes_1 fun _ _ _ _ _ _ h hF => ⟨h.1, hF⟩
theorem main_1_2 : Claimed_1_2 := comes_1 fun _ _ _ _ _ _ h hF => ⟨h.2.1, hF⟩
end Jvm.Pilot.@@N@@
namespace Jvm.Pilot.@@N@@
open Jvm Jvm.ClassFile Sem Op Lib Jvm.Free Jvm.Stand Jvm.Pilot.@@N@@.Jvm.D
/-! MADE BY PROGRAM (witnessworld.py) out of the Statement's table words and the real class files: 19 classes; the members and pool entries that the words name. The judged class is class 1, her method 3. -/
namespace start1
open Jvm.ClassFile
def u (s : String) : CpInfo := .utf8 (stringToUtf16 s)
/-- a pool by its gaps: so many unusable entries, then the entry; so many at the end -/
def gap : Nat → List CpInfo → List CpInfo
  | 0, r => r
  | n + 1, r => .unusable :: gap n r
def poolList (es : List (Nat × CpInfo)) (last : Nat) : List CpInfo := es.foldr (fun e r => gap e.1 (e.2 :: r)) (gap last [])
def pool (es : List (Nat × CpInfo)) (last : Nat) : Array CpInfo := ⟨poolList es last⟩
def fileOf (pool : Array CpInfo) (this : Nat) (attrs : Array Attribute := #[]) (ms : Array MethodInfo := #[]) (fl : Nat := 33) (sup : Nat := 0) (ifs : Array Nat := #[]) (fds : Array FieldInfo := #[]) : ClassFile where
  minorVersion := 0
  majorVersion := 65
  constantPool := pool
  accessFlags := fl
  thisClass := this
  superClass := sup
  interfaces := ifs
  fields := fds
  methods := ms
  attributes := attrs
def plain (name : String) (sup : Option ClassId) : Class where
  name := name
  kind := .ordinary
  loader := none
  accessFlags := 33
  super := sup
  interfaces := #[]
  cf := none
  fields := #[]
  methods := #[]
  instanceTypes := #[]
  staticTypes := #[]
  resolved := #[]
  callSites := []
  init := .initialized
  statics := none
  mirror := none

def pool0 : Array CpInfo := pool [(5, u "<init>"), (0, u "()V"), (1, .class_ 10), (1, u "java/lang/Object")] 113

def k0c0 : Code := { maxStack := 0, maxLocals := 1, code := object_method_1_code, exceptionTable := #[], attributes := #[] }
def k0m0 : Method := { name := "<init>", desc := "()V", sig := { parameters := [], returnType := none }, accessFlags := 1, code := some k0c0 }
/-- java/lang/Object -/
def k0 : Class := { plain "java/lang/Object" none with
  accessFlags := 33
  interfaces := #[]
  cf := some (fileOf pool0 8 #[] #[{ accessFlags := 1, nameIndex := 5, descriptorIndex := 6, attributes := #[] }] 33 0 #[] #[])
  fields := #[]
  methods := #[k0m0]
  instanceTypes := #[]
  staticTypes := #[]
  resolved := Array.replicate 124 none
  statics := none }

def pool1 : Array CpInfo := pool [(2, .class_ 4), (1, u "java/lang/Object"), (0, u "<init>"), (0, u "()V"), (0, .methodref 8 9), (0, .class_ 10), (0, .nameAndType 11 12), (0, u "com/example/tracewarden/tracewarden/monitor/WindowEntriesStretchOfPinLaw"), (0, u "d"), (0, u "(II)I"), (0, .integer 2147483647), (0, .class_ 15), (0, u "com/example/tracewarden/tracewarden/monitor/WindowEntries"), (0, .methodref 14 17), (0, .nameAndType 5 18), (0, u "(I)V"), (0, .methodref 14 20), (0, .nameAndType 21 22), (0, u "add"), (0, u "(JLjava/math/BigDecimal;I)V"), (0, .long 2), (1, .long 3), (1, .long 4), (1, .methodref 14 30), (0, .nameAndType 31 18), (0, u "dropAndJoin"), (0, .methodref 14 33), (0, .nameAndType 34 35), (0, u "stretchOf"), (0, u "(I)I"), (0, .methodref 8 37), (0, .nameAndType 38 12), (0, u "ref"), (3, u "law"), (0, u "(IIII)Z")] 2

def k1m0 : Method := { name := "<init>", desc := "()V", sig := { parameters := [], returnType := none }, accessFlags := 1, code := none }
def k1c1 : Code := { maxStack := 4, maxLocals := 2, code := method_2_code, exceptionTable := #[], attributes := #[] }
def k1m1 : Method := { name := "d", desc := "(II)I", sig := { parameters := [.int, .int], returnType := some .int }, accessFlags := 10, code := some k1c1 }
def k1c2 : Code := { maxStack := 3, maxLocals := 3, code := method_3_code, exceptionTable := #[], attributes := #[] }
def k1m2 : Method := { name := "ref", desc := "(II)I", sig := { parameters := [.int, .int], returnType := some .int }, accessFlags := 10, code := some k1c2 }
def k1c3 : Code := { maxStack := 7, maxLocals := 11, code := code, exceptionTable := #[], attributes := #[] }
def k1m3 : Method := { name := "law", desc := "(IIII)Z", sig := { parameters := [.int, .int, .int, .int], returnType := some .boolean }, accessFlags := 9, code := some k1c3 }
/-- com/example/tracewarden/tracewarden/monitor/WindowEntriesStretchOfPinLaw -/
def k1 : Class := { plain "com/example/tracewarden/tracewarden/monitor/WindowEntriesStretchOfPinLaw" (some 0) with
  accessFlags := 49
  interfaces := #[]
  cf := some (fileOf pool1 8 #[] #[{ accessFlags := 1, nameIndex := 5, descriptorIndex := 6, attributes := #[] }, { accessFlags := 10, nameIndex := 11, descriptorIndex := 12, attributes := #[] }, { accessFlags := 10, nameIndex := 38, descriptorIndex := 12, attributes := #[] }, { accessFlags := 9, nameIndex := 42, descriptorIndex := 43, attributes := #[] }] 49 2 #[] #[])
  fields := #[]
  methods := #[k1m0, k1m1, k1m2, k1m3]
  instanceTypes := #[]
  staticTypes := #[]
  resolved := Array.replicate 46 none
  statics := none }

def pool2 : Array CpInfo := pool [(1, .methodref 2 3), (0, .class_ 4), (0, .nameAndType 5 6), (0, u "java/lang/Object"), (0, u "<init>"), (0, u "()V"), (0, .methodref 8 9), (0, .class_ 10), (0, .nameAndType 11 12), (0, u "com/example/tracewarden/tracewarden/monitor/Openings"), (0, u "timed"), (0, u "()Lcom/example/tracewarden/tracewarden/monitor/Openings;"), (0, .fieldref 14 15), (0, .class_ 16), (0, .nameAndType 17 18), (0, u "com/example/tracewarden/tracewarden/monitor/WindowEntries"), (0, u "cells"), (0, u "Lcom/example/tracewarden/tracewarden/monitor/Openings;"), (0, .fieldref 14 20), (0, .nameAndType 21 22), (0, u "counts"), (0, u "[I"), (0, .fieldref 14 24), (0, .nameAndType 25 22), (0, u "factors"), (0, .fieldref 14 27), (0, .nameAndType 28 22), (0, u "factorsIfLast"), (0, .fieldref 14 30), (0, .nameAndType 31 32), (0, u "kept"), (0, u "[J"), (0, .fieldref 14 34), (0, .nameAndType 35 36), (0, u "slot"), (0, u "I"), (19, .fieldref 14 57), (0, .nameAndType 58 36), (0, u "stretches"), (0, .fieldref 14 60), (0, .nameAndType 61 36), (0, u "foundStart"), (0, .fieldref 14 63), (0, .nameAndType 64 36), (0, u "foundStretch"), (0, .methodref 14 66), (0, .nameAndType 67 68), (0, u "addStretch"), (0, u "(I)V"), (0, .methodref 8 70), (0, .nameAndType 71 72), (0, u "add"), (0, u "(JLjava/math/BigDecimal;)V"), (0, .methodref 74 75), (0, .class_ 76), (0, .nameAndType 77 78), (0, u "java/util/Arrays"), (0, u "copyOf"), (0, u "([II)[I"), (16, .methodref 14 96), (0, .nameAndType 97 6), (0, u "forgetFound"), (11, u "(I)I"), (2, u "stretchOf"), (3, u "(JLjava/math/BigDecimal;I)V"), (1, u "dropAndJoin")] 2

def k2c0 : Code := { maxStack := 2, maxLocals := 2, code := prog_144_method_1_code, exceptionTable := #[], attributes := #[] }
def k2m0 : Method := { name := "<init>", desc := "(I)V", sig := { parameters := [.int], returnType := none }, accessFlags := 0, code := some k2c0 }
def k2c1 : Code := { maxStack := 7, maxLocals := 2, code := prog_144_method_12_code, exceptionTable := #[], attributes := #[] }
def k2m1 : Method := { name := "stretchOf", desc := "(I)I", sig := { parameters := [.int], returnType := some .int }, accessFlags := 0, code := some k2c1 }
def k2c2 : Code := { maxStack := 4, maxLocals := 5, code := prog_144_method_14_code, exceptionTable := #[], attributes := #[] }
def k2m2 : Method := { name := "add", desc := "(JLjava/math/BigDecimal;I)V", sig := { parameters := [.long, (.object "java/math/BigDecimal"), .int], returnType := none }, accessFlags := 0, code := some k2c2 }
def k2c3 : Code := { maxStack := 5, maxLocals := 2, code := prog_144_method_16_code, exceptionTable := #[], attributes := #[] }
def k2m3 : Method := { name := "addStretch", desc := "(I)V", sig := { parameters := [.int], returnType := none }, accessFlags := 2, code := some k2c3 }
def k2c4 : Code := { maxStack := 6, maxLocals := 9, code := prog_144_method_20_code, exceptionTable := #[], attributes := #[] }
def k2m4 : Method := { name := "dropAndJoin", desc := "(I)V", sig := { parameters := [.int], returnType := none }, accessFlags := 0, code := some k2c4 }
def k2c5 : Code := { maxStack := 2, maxLocals := 1, code := prog_144_method_21_code, exceptionTable := #[], attributes := #[] }
def k2m5 : Method := { name := "forgetFound", desc := "()V", sig := { parameters := [], returnType := none }, accessFlags := 2, code := some k2c5 }
/-- com/example/tracewarden/tracewarden/monitor/WindowEntries -/
def k2 : Class := { plain "com/example/tracewarden/tracewarden/monitor/WindowEntries" (some 0) with
  accessFlags := 48
  interfaces := #[]
  cf := some (fileOf pool2 14 #[] #[{ accessFlags := 0, nameIndex := 5, descriptorIndex := 68, attributes := #[] }, { accessFlags := 0, nameIndex := 112, descriptorIndex := 109, attributes := #[] }, { accessFlags := 0, nameIndex := 71, descriptorIndex := 116, attributes := #[] }, { accessFlags := 2, nameIndex := 67, descriptorIndex := 68, attributes := #[] }, { accessFlags := 0, nameIndex := 118, descriptorIndex := 68, attributes := #[] }, { accessFlags := 2, nameIndex := 97, descriptorIndex := 6, attributes := #[] }] 48 2 #[] #[{ accessFlags := 18, nameIndex := 35, descriptorIndex := 36, attributes := #[] }, { accessFlags := 18, nameIndex := 17, descriptorIndex := 18, attributes := #[] }, { accessFlags := 2, nameIndex := 21, descriptorIndex := 22, attributes := #[] }, { accessFlags := 2, nameIndex := 25, descriptorIndex := 22, attributes := #[] }, { accessFlags := 2, nameIndex := 28, descriptorIndex := 22, attributes := #[] }, { accessFlags := 2, nameIndex := 58, descriptorIndex := 36, attributes := #[] }, { accessFlags := 2, nameIndex := 31, descriptorIndex := 32, attributes := #[] }, { accessFlags := 2, nameIndex := 64, descriptorIndex := 36, attributes := #[] }, { accessFlags := 2, nameIndex := 61, descriptorIndex := 36, attributes := #[] }])
  fields := #[{ name := "slot", type := .int, accessFlags := 18, slot := 0, constantValue := 0 }, { name := "cells", type := (.object "com/example/tracewarden/tracewarden/monitor/Openings"), accessFlags := 18, slot := 1, constantValue := 0 }, { name := "counts", type := (.array .int), accessFlags := 2, slot := 2, constantValue := 0 }, { name := "factors", type := (.array .int), accessFlags := 2, slot := 3, constantValue := 0 }, { name := "factorsIfLast", type := (.array .int), accessFlags := 2, slot := 4, constantValue := 0 }, { name := "stretches", type := .int, accessFlags := 2, slot := 5, constantValue := 0 }, { name := "kept", type := (.array .long), accessFlags := 2, slot := 6, constantValue := 0 }, { name := "foundStretch", type := .int, accessFlags := 2, slot := 7, constantValue := 0 }, { name := "foundStart", type := .int, accessFlags := 2, slot := 8, constantValue := 0 }]
  methods := #[k2m0, k2m1, k2m2, k2m3, k2m4, k2m5]
  instanceTypes := #[.int, (.object "com/example/tracewarden/tracewarden/monitor/Openings"), (.array .int), (.array .int), (.array .int), .int, (.array .long), .int, .int]
  staticTypes := #[]
  resolved := Array.replicate 121 none
  statics := none }

def pool3 : Array CpInfo := pool [(1, .methodref 2 3), (0, .class_ 4), (0, .nameAndType 5 6), (0, u "java/lang/Object"), (0, u "<init>"), (0, u "()V"), (0, .fieldref 8 9), (0, .class_ 10), (0, .nameAndType 11 12), (0, u "com/example/tracewarden/tracewarden/monitor/Openings"), (0, u "cells"), (0, u "[J"), (0, .fieldref 8 14), (0, .nameAndType 15 12), (0, u "inner"), (0, .fieldref 8 17), (0, .nameAndType 18 19), (0, u "lastFound"), (0, u "I"), (0, .fieldref 8 21), (0, .nameAndType 22 19), (0, u "foundBefore"), (0, .methodref 8 3), (0, .class_ 25), (0, u "java/math/BigDecimal"), (0, .fieldref 8 27), (0, .nameAndType 28 29), (0, u "times"), (0, u "[Ljava/math/BigDecimal;"), (0, .fieldref 8 31), (0, .nameAndType 32 19), (0, u "count"), (0, .fieldref 8 34), (0, .nameAndType 35 19), (0, u "first"), (2, u "add"), (1, .methodref 8 41), (0, .nameAndType 42 6), (0, u "makeRoom"), (73, u "UNTOLD"), (0, u "Ljava/util/function/LongConsumer;"), (22, u "GUESSES"), (2, u "SLACK"), (3, u "timed"), (0, u "()Lcom/example/tracewarden/tracewarden/monitor/Openings;"), (7, u "(JLjava/math/BigDecimal;)V")] 41

def k3c0 : Code := { maxStack := 2, maxLocals := 1, code := prog_92_method_1_code, exceptionTable := #[], attributes := #[] }
def k3m0 : Method := { name := "<init>", desc := "()V", sig := { parameters := [], returnType := none }, accessFlags := 0, code := some k3c0 }
def k3c1 : Code := { maxStack := 2, maxLocals := 1, code := prog_92_method_2_code, exceptionTable := #[], attributes := #[] }
def k3m1 : Method := { name := "timed", desc := "()Lcom/example/tracewarden/tracewarden/monitor/Openings;", sig := { parameters := [], returnType := some (.object "com/example/tracewarden/tracewarden/monitor/Openings") }, accessFlags := 8, code := some k3c1 }
def k3c2 : Code := { maxStack := 6, maxLocals := 4, code := prog_92_method_9_code, exceptionTable := #[], attributes := #[] }
def k3m2 : Method := { name := "add", desc := "(JLjava/math/BigDecimal;)V", sig := { parameters := [.long, (.object "java/math/BigDecimal")], returnType := none }, accessFlags := 0, code := some k3c2 }
def k3c3 : Code := { maxStack := 4, maxLocals := 1, code := prog_92_method_10_code, exceptionTable := #[], attributes := #[] }
def k3m3 : Method := { name := "makeRoom", desc := "()V", sig := { parameters := [], returnType := none }, accessFlags := 2, code := some k3c3 }
/-- com/example/tracewarden/tracewarden/monitor/Openings -/
def k3 : Class := { plain "com/example/tracewarden/tracewarden/monitor/Openings" (some 0) with
  accessFlags := 48
  interfaces := #[]
  cf := some (fileOf pool3 8 #[] #[{ accessFlags := 0, nameIndex := 5, descriptorIndex := 6, attributes := #[] }, { accessFlags := 8, nameIndex := 147, descriptorIndex := 148, attributes := #[] }, { accessFlags := 0, nameIndex := 38, descriptorIndex := 156, attributes := #[] }, { accessFlags := 2, nameIndex := 42, descriptorIndex := 6, attributes := #[] }] 48 2 #[] #[{ accessFlags := 26, nameIndex := 140, descriptorIndex := 19, attributes := #[] }, { accessFlags := 26, nameIndex := 143, descriptorIndex := 19, attributes := #[] }, { accessFlags := 24, nameIndex := 116, descriptorIndex := 117, attributes := #[] }, { accessFlags := 2, nameIndex := 11, descriptorIndex := 12, attributes := #[] }, { accessFlags := 2, nameIndex := 15, descriptorIndex := 12, attributes := #[] }, { accessFlags := 2, nameIndex := 28, descriptorIndex := 29, attributes := #[] }, { accessFlags := 2, nameIndex := 35, descriptorIndex := 19, attributes := #[] }, { accessFlags := 2, nameIndex := 32, descriptorIndex := 19, attributes := #[] }, { accessFlags := 2, nameIndex := 18, descriptorIndex := 19, attributes := #[] }, { accessFlags := 2, nameIndex := 22, descriptorIndex := 19, attributes := #[] }])
  fields := #[{ name := "GUESSES", type := .int, accessFlags := 26, slot := 0, constantValue := 0 }, { name := "SLACK", type := .int, accessFlags := 26, slot := 1, constantValue := 0 }, { name := "UNTOLD", type := (.object "java/util/function/LongConsumer"), accessFlags := 24, slot := 2, constantValue := 0 }, { name := "cells", type := (.array .long), accessFlags := 2, slot := 0, constantValue := 0 }, { name := "inner", type := (.array .long), accessFlags := 2, slot := 1, constantValue := 0 }, { name := "times", type := (.array (.object "java/math/BigDecimal")), accessFlags := 2, slot := 2, constantValue := 0 }, { name := "first", type := .int, accessFlags := 2, slot := 3, constantValue := 0 }, { name := "count", type := .int, accessFlags := 2, slot := 4, constantValue := 0 }, { name := "lastFound", type := .int, accessFlags := 2, slot := 5, constantValue := 0 }, { name := "foundBefore", type := .int, accessFlags := 2, slot := 6, constantValue := 0 }]
  methods := #[k3m0, k3m1, k3m2, k3m3]
  instanceTypes := #[(.array .long), (.array .long), (.array (.object "java/math/BigDecimal")), .int, .int, .int, .int]
  staticTypes := #[.int, .int, (.object "java/util/function/LongConsumer")]
  resolved := Array.replicate 198 none
  statics := none }

def pool4 : Array CpInfo := pool [(1, .class_ 2), (0, u "java/io/Serializable"), (0, .class_ 4), (0, u "java/lang/Object")] 2

/-- java/io/Serializable -/
def k4 : Class := { plain "java/io/Serializable" (some 0) with
  accessFlags := 1537
  interfaces := #[]
  cf := some (fileOf pool4 1 #[] #[] 1537 3 #[] #[])
  fields := #[]
  methods := #[]
  instanceTypes := #[]
  staticTypes := #[]
  resolved := Array.replicate 7 none
  statics := none }

def pool5 : Array CpInfo := pool [(2, .class_ 4), (1, u "java/lang/Object"), (0, u "<init>"), (0, u "()V"), (1, .class_ 10), (1, u "java/lang/Number"), (2, .class_ 14), (0, u "java/io/Serializable"), (0, u "serialVersionUID"), (0, u "J")] 20

def k5m0 : Method := { name := "<init>", desc := "()V", sig := { parameters := [], returnType := none }, accessFlags := 1, code := none }
/-- java/lang/Number -/
def k5 : Class := { plain "java/lang/Number" (some 0) with
  accessFlags := 1057
  interfaces := #[4]
  cf := some (fileOf pool5 8 #[] #[{ accessFlags := 1, nameIndex := 5, descriptorIndex := 6, attributes := #[] }] 1057 2 #[13] #[{ accessFlags := 26, nameIndex := 15, descriptorIndex := 16, attributes := #[] }])
  fields := #[{ name := "serialVersionUID", type := .long, accessFlags := 26, slot := 0, constantValue := 0 }]
  methods := #[k5m0]
  instanceTypes := #[]
  staticTypes := #[.long]
  resolved := Array.replicate 37 none
  statics := none }

def pool6 : Array CpInfo := pool [(1, .class_ 2), (0, u "java/lang/Comparable"), (0, .class_ 4), (0, u "java/lang/Object")] 7

/-- java/lang/Comparable -/
def k6 : Class := { plain "java/lang/Comparable" (some 0) with
  accessFlags := 1537
  interfaces := #[]
  cf := some (fileOf pool6 1 #[] #[] 1537 3 #[] #[])
  fields := #[]
  methods := #[]
  instanceTypes := #[]
  staticTypes := #[]
  resolved := Array.replicate 12 none
  statics := none }

def pool7 : Array CpInfo := pool [(3, .class_ 4), (0, u "java/math/BigDecimal"), (7, .class_ 14), (1, u "java/lang/Number"), (4, u "scale"), (0, u "I"), (2, u "precision"), (2, u "intCompact"), (0, u "J"), (2, u "intVal"), (0, u "Ljava/math/BigInteger;"), (65, u "LONG_TEN_POWERS_TABLE"), (0, u "[J"), (88, u "ZERO"), (2, u "INFLATED_BIGINT"), (15, u "TWO"), (41, u "ZERO_THROUGH_TEN"), (0, u "[Ljava/math/BigDecimal;"), (2, u "ZERO_SCALED_BY"), (60, u "$assertionsDisabled"), (0, u "Z"), (163, u "ONE_TENTH"), (0, u "Ljava/math/BigDecimal;"), (5, u "TEN"), (14, .class_ 502), (1, u "java/math/BigDecimal$1"), (15, u "ONE_HALF"), (16, u "ONE"), (107, u "stringCache"), (0, u "Ljava/lang/String;"), (52, .class_ 699), (1, u "java/math/BigDecimal$LongOverflow"), (8, u "FLOAT_10_POW"), (0, u "[F"), (39, u "DOUBLE_10_POW"), (0, u "[D"), (19, .class_ 772), (1, u "java/math/BigDecimal$StringBuilderHelper"), (35, u "BIG_TEN_POWERS_TABLE_MAX"), (2, u "BIG_TEN_POWERS_TABLE"), (0, u "[Ljava/math/BigInteger;"), (14, u "THRESHOLDS_TABLE"), (23, .class_ 853), (1, u "java/math/BigDecimal$UnsafeHolder"), (214, u "LONGLONG_TEN_POWERS_TABLE"), (0, u "[[J"), (112, u "BIG_TEN_POWERS_TABLE_INITLEN"), (113, .class_ 1297), (0, u "java/lang/Comparable"), (0, u "L"), (0, u "D"), (1, u "P_F"), (1, u "Q_MIN_F"), (1, u "Q_MAX_F"), (1, u "P_D"), (1, u "Q_MIN_D"), (1, u "Q_MAX_D"), (1, u "INFLATED"), (0, u "MAX_COMPACT_DIGITS"), (1, u "serialVersionUID"), (2, u "HALF_LONG_MAX_VALUE"), (0, u "HALF_LONG_MIN_VALUE"), (0, u "ROUND_UP"), (6, u "ROUND_DOWN"), (1, u "ROUND_CEILING"), (1, u "ROUND_FLOOR"), (1, u "ROUND_HALF_UP"), (1, u "ROUND_HALF_DOWN"), (1, u "ROUND_HALF_EVEN"), (1, u "ROUND_UNNECESSARY"), (1, u "DIV_NUM_BASE")] 294

/-- java/math/BigDecimal -/
def k7 : Class := { plain "java/math/BigDecimal" (some 5) with
  accessFlags := 33
  interfaces := #[6]
  cf := some (fileOf pool7 3 #[.nestMembers #[500, 851, 770, 697]] #[] 33 12 #[1296] #[{ accessFlags := 26, nameIndex := 1298, descriptorIndex := 1299, attributes := #[] }, { accessFlags := 26, nameIndex := 1301, descriptorIndex := 20, attributes := #[] }, { accessFlags := 26, nameIndex := 1303, descriptorIndex := 20, attributes := #[] }, { accessFlags := 26, nameIndex := 1305, descriptorIndex := 20, attributes := #[] }, { accessFlags := 26, nameIndex := 1307, descriptorIndex := 20, attributes := #[] }, { accessFlags := 26, nameIndex := 1309, descriptorIndex := 20, attributes := #[] }, { accessFlags := 26, nameIndex := 1311, descriptorIndex := 20, attributes := #[] }, { accessFlags := 18, nameIndex := 30, descriptorIndex := 31, attributes := #[] }, { accessFlags := 18, nameIndex := 19, descriptorIndex := 20, attributes := #[] }, { accessFlags := 130, nameIndex := 23, descriptorIndex := 20, attributes := #[] }, { accessFlags := 130, nameIndex := 643, descriptorIndex := 644, attributes := #[] }, { accessFlags := 24, nameIndex := 1313, descriptorIndex := 27, attributes := #[] }, { accessFlags := 26, nameIndex := 190, descriptorIndex := 31, attributes := #[] }, { accessFlags := 146, nameIndex := 26, descriptorIndex := 27, attributes := #[] }, { accessFlags := 26, nameIndex := 1314, descriptorIndex := 20, attributes := #[] }, { accessFlags := 26, nameIndex := 1316, descriptorIndex := 27, attributes := #[] }, { accessFlags := 26, nameIndex := 248, descriptorIndex := 249, attributes := #[] }, { accessFlags := 26, nameIndex := 252, descriptorIndex := 249, attributes := #[] }, { accessFlags := 26, nameIndex := 1319, descriptorIndex := 27, attributes := #[] }, { accessFlags := 26, nameIndex := 1320, descriptorIndex := 27, attributes := #[] }, { accessFlags := 25, nameIndex := 187, descriptorIndex := 479, attributes := #[] }, { accessFlags := 25, nameIndex := 535, descriptorIndex := 479, attributes := #[] }, { accessFlags := 25, nameIndex := 206, descriptorIndex := 479, attributes := #[] }, { accessFlags := 25, nameIndex := 485, descriptorIndex := 479, attributes := #[] }, { accessFlags := 26, nameIndex := 478, descriptorIndex := 479, attributes := #[] }, { accessFlags := 26, nameIndex := 518, descriptorIndex := 479, attributes := #[] }, { accessFlags := 25, nameIndex := 1321, descriptorIndex := 20, attributes := #[] }, { accessFlags := 25, nameIndex := 1328, descriptorIndex := 20, attributes := #[] }, { accessFlags := 25, nameIndex := 1330, descriptorIndex := 20, attributes := #[] }, { accessFlags := 25, nameIndex := 1332, descriptorIndex := 20, attributes := #[] }, { accessFlags := 25, nameIndex := 1334, descriptorIndex := 20, attributes := #[] }, { accessFlags := 25, nameIndex := 1336, descriptorIndex := 20, attributes := #[] }, { accessFlags := 25, nameIndex := 1338, descriptorIndex := 20, attributes := #[] }, { accessFlags := 25, nameIndex := 1340, descriptorIndex := 20, attributes := #[] }, { accessFlags := 26, nameIndex := 749, descriptorIndex := 750, attributes := #[] }, { accessFlags := 26, nameIndex := 708, descriptorIndex := 709, attributes := #[] }, { accessFlags := 26, nameIndex := 97, descriptorIndex := 98, attributes := #[] }, { accessFlags := 74, nameIndex := 811, descriptorIndex := 812, attributes := #[] }, { accessFlags := 26, nameIndex := 1182, descriptorIndex := 20, attributes := #[] }, { accessFlags := 26, nameIndex := 808, descriptorIndex := 20, attributes := #[] }, { accessFlags := 26, nameIndex := 827, descriptorIndex := 98, attributes := #[] }, { accessFlags := 26, nameIndex := 1342, descriptorIndex := 27, attributes := #[] }, { accessFlags := 26, nameIndex := 1068, descriptorIndex := 1069, attributes := #[] }, { accessFlags := 4120, nameIndex := 313, descriptorIndex := 314, attributes := #[] }])
  fields := #[{ name := "L", type := .double, accessFlags := 26, slot := 0, constantValue := 0 }, { name := "P_F", type := .int, accessFlags := 26, slot := 1, constantValue := 0 }, { name := "Q_MIN_F", type := .int, accessFlags := 26, slot := 2, constantValue := 0 }, { name := "Q_MAX_F", type := .int, accessFlags := 26, slot := 3, constantValue := 0 }, { name := "P_D", type := .int, accessFlags := 26, slot := 4, constantValue := 0 }, { name := "Q_MIN_D", type := .int, accessFlags := 26, slot := 5, constantValue := 0 }, { name := "Q_MAX_D", type := .int, accessFlags := 26, slot := 6, constantValue := 0 }, { name := "intVal", type := (.object "java/math/BigInteger"), accessFlags := 18, slot := 0, constantValue := 0 }, { name := "scale", type := .int, accessFlags := 18, slot := 1, constantValue := 0 }, { name := "precision", type := .int, accessFlags := 130, slot := 2, constantValue := 0 }, { name := "stringCache", type := (.object "java/lang/String"), accessFlags := 130, slot := 3, constantValue := 0 }, { name := "INFLATED", type := .long, accessFlags := 24, slot := 7, constantValue := 0 }, { name := "INFLATED_BIGINT", type := (.object "java/math/BigInteger"), accessFlags := 26, slot := 8, constantValue := 0 }, { name := "intCompact", type := .long, accessFlags := 146, slot := 4, constantValue := 0 }, { name := "MAX_COMPACT_DIGITS", type := .int, accessFlags := 26, slot := 9, constantValue := 0 }, { name := "serialVersionUID", type := .long, accessFlags := 26, slot := 10, constantValue := 0 }, { name := "ZERO_THROUGH_TEN", type := (.array (.object "java/math/BigDecimal")), accessFlags := 26, slot := 11, constantValue := 0 }, { name := "ZERO_SCALED_BY", type := (.array (.object "java/math/BigDecimal")), accessFlags := 26, slot := 12, constantValue := 0 }, { name := "HALF_LONG_MAX_VALUE", type := .long, accessFlags := 26, slot := 13, constantValue := 0 }, { name := "HALF_LONG_MIN_VALUE", type := .long, accessFlags := 26, slot := 14, constantValue := 0 }, { name := "ZERO", type := (.object "java/math/BigDecimal"), accessFlags := 25, slot := 15, constantValue := 0 }, { name := "ONE", type := (.object "java/math/BigDecimal"), accessFlags := 25, slot := 16, constantValue := 0 }, { name := "TWO", type := (.object "java/math/BigDecimal"), accessFlags := 25, slot := 17, constantValue := 0 }, { name := "TEN", type := (.object "java/math/BigDecimal"), accessFlags := 25, slot := 18, constantValue := 0 }, { name := "ONE_TENTH", type := (.object "java/math/BigDecimal"), accessFlags := 26, slot := 19, constantValue := 0 }, { name := "ONE_HALF", type := (.object "java/math/BigDecimal"), accessFlags := 26, slot := 20, constantValue := 0 }, { name := "ROUND_UP", type := .int, accessFlags := 25, slot := 21, constantValue := 0 }, { name := "ROUND_DOWN", type := .int, accessFlags := 25, slot := 22, constantValue := 0 }, { name := "ROUND_CEILING", type := .int, accessFlags := 25, slot := 23, constantValue := 0 }, { name := "ROUND_FLOOR", type := .int, accessFlags := 25, slot := 24, constantValue := 0 }, { name := "ROUND_HALF_UP", type := .int, accessFlags := 25, slot := 25, constantValue := 0 }, { name := "ROUND_HALF_DOWN", type := .int, accessFlags := 25, slot := 26, constantValue := 0 }, { name := "ROUND_HALF_EVEN", type := .int, accessFlags := 25, slot := 27, constantValue := 0 }, { name := "ROUND_UNNECESSARY", type := .int, accessFlags := 25, slot := 28, constantValue := 0 }, { name := "DOUBLE_10_POW", type := (.array .double), accessFlags := 26, slot := 29, constantValue := 0 }, { name := "FLOAT_10_POW", type := (.array .float), accessFlags := 26, slot := 30, constantValue := 0 }, { name := "LONG_TEN_POWERS_TABLE", type := (.array .long), accessFlags := 26, slot := 31, constantValue := 0 }, { name := "BIG_TEN_POWERS_TABLE", type := (.array (.object "java/math/BigInteger")), accessFlags := 74, slot := 32, constantValue := 0 }, { name := "BIG_TEN_POWERS_TABLE_INITLEN", type := .int, accessFlags := 26, slot := 33, constantValue := 0 }, { name := "BIG_TEN_POWERS_TABLE_MAX", type := .int, accessFlags := 26, slot := 34, constantValue := 0 }, { name := "THRESHOLDS_TABLE", type := (.array .long), accessFlags := 26, slot := 35, constantValue := 0 }, { name := "DIV_NUM_BASE", type := .long, accessFlags := 26, slot := 36, constantValue := 0 }, { name := "LONGLONG_TEN_POWERS_TABLE", type := (.array (.array .long)), accessFlags := 26, slot := 37, constantValue := 0 }, { name := "$assertionsDisabled", type := .boolean, accessFlags := 4120, slot := 38, constantValue := 0 }]
  methods := #[]
  instanceTypes := #[(.object "java/math/BigInteger"), .int, .int, (.object "java/lang/String"), .long]
  staticTypes := #[.double, .int, .int, .int, .int, .int, .int, .long, (.object "java/math/BigInteger"), .int, .long, (.array (.object "java/math/BigDecimal")), (.array (.object "java/math/BigDecimal")), .long, .long, (.object "java/math/BigDecimal"), (.object "java/math/BigDecimal"), (.object "java/math/BigDecimal"), (.object "java/math/BigDecimal"), (.object "java/math/BigDecimal"), (.object "java/math/BigDecimal"), .int, .int, .int, .int, .int, .int, .int, .int, (.array .double), (.array .float), (.array .long), (.array (.object "java/math/BigInteger")), .int, .int, (.array .long), .long, (.array (.array .long)), .boolean]
  resolved := Array.replicate 1637 none
  statics := none }

def pool8 : Array CpInfo := pool [(2, .class_ 4), (1, u "java/lang/Object"), (0, u "<init>"), (0, u "()V"), (7, .class_ 16), (1, u "java/util/Arrays"), (57, .class_ 76), (1, u "java/util/Arrays$NaturalOrder"), (36, .class_ 115), (1, u "java/util/Arrays$LegacyMergeSort"), (1, u "Z"), (32, .methodref 151 152), (0, .class_ 153), (0, .nameAndType 154 155), (0, u "java/lang/System"), (0, u "arraycopy"), (0, u "(Ljava/lang/Object;ILjava/lang/Object;II)V"), (146, u "copyOf"), (1, .methodref 305 306), (0, .class_ 307), (0, .nameAndType 308 309), (0, u "java/lang/Math"), (0, u "min"), (0, u "(II)I"), (65, .class_ 376), (0, u "java/util/Arrays$ArrayList"), (68, u "$assertionsDisabled"), (269, u "MIN_ARRAY_SORT_GRAN"), (0, u "I"), (2, u "INSERTIONSORT_THRESHOLD"), (151, u "([II)[I"), (103, .class_ 976), (0, u "java/util/Arrays$ArrayItr")] 52

def k8m0 : Method := { name := "<init>", desc := "()V", sig := { parameters := [], returnType := none }, accessFlags := 2, code := none }
def k8c1 : Code := { maxStack := 6, maxLocals := 3, code := jdk_65_method_123_code, exceptionTable := #[], attributes := #[] }
def k8m1 : Method := { name := "copyOf", desc := "([II)[I", sig := { parameters := [(.array .int), .int], returnType := some (.array .int) }, accessFlags := 9, code := some k8c1 }
/-- java/util/Arrays -/
def k8 : Class := { plain "java/util/Arrays" (some 0) with
  accessFlags := 49
  interfaces := #[]
  cf := some (fileOf pool8 14 #[.nestMembers #[975, 375, 113, 74]] #[{ accessFlags := 2, nameIndex := 5, descriptorIndex := 6, attributes := #[] }, { accessFlags := 9, nameIndex := 302, descriptorIndex := 871, attributes := #[] }] 49 2 #[] #[{ accessFlags := 26, nameIndex := 715, descriptorIndex := 716, attributes := #[] }, { accessFlags := 26, nameIndex := 719, descriptorIndex := 716, attributes := #[] }, { accessFlags := 4120, nameIndex := 445, descriptorIndex := 117, attributes := #[] }])
  fields := #[{ name := "MIN_ARRAY_SORT_GRAN", type := .int, accessFlags := 26, slot := 0, constantValue := 0 }, { name := "INSERTIONSORT_THRESHOLD", type := .int, accessFlags := 26, slot := 1, constantValue := 0 }, { name := "$assertionsDisabled", type := .boolean, accessFlags := 4120, slot := 2, constantValue := 0 }]
  methods := #[k8m0, k8m1]
  instanceTypes := #[]
  staticTypes := #[.int, .int, .boolean]
  resolved := Array.replicate 1029 none
  statics := none }

def pool9 : Array CpInfo := pool [(1, .class_ 2), (0, u "java/lang/Math"), (1, .class_ 6), (1, u "java/lang/Object"), (0, u "<init>"), (0, u "()V"), (89, .class_ 100), (1, u "java/lang/Math$RandomNumberGeneratorHolder"), (71, u "negativeZeroFloatBits"), (0, u "J"), (2, u "negativeZeroDoubleBits"), (24, u "min"), (43, u "$assertionsDisabled"), (0, u "Z"), (88, u "(II)I"), (2, u "twoToTheDoubleScaleDown"), (0, u "D"), (4, u "twoToTheDoubleScaleUp"), (9, u "E"), (3, u "PI"), (2, u "TAU"), (2, u "DEGREES_TO_RADIANS"), (0, u "RADIANS_TO_DEGREES")] 94

def k9m0 : Method := { name := "<init>", desc := "()V", sig := { parameters := [], returnType := none }, accessFlags := 2, code := none }
def k9c1 : Code := { maxStack := 2, maxLocals := 2, code := jdk_29_method_69_code, exceptionTable := #[], attributes := #[] }
def k9m1 : Method := { name := "min", desc := "(II)I", sig := { parameters := [.int, .int], returnType := some .int }, accessFlags := 9, code := some k9c1 }
/-- java/lang/Math -/
def k9 : Class := { plain "java/lang/Math" (some 0) with
  accessFlags := 49
  interfaces := #[]
  cf := some (fileOf pool9 1 #[.nestMembers #[98]] #[{ accessFlags := 2, nameIndex := 7, descriptorIndex := 8, attributes := #[] }, { accessFlags := 9, nameIndex := 201, descriptorIndex := 335, attributes := #[] }] 49 4 #[] #[{ accessFlags := 25, nameIndex := 354, descriptorIndex := 339, attributes := #[] }, { accessFlags := 25, nameIndex := 358, descriptorIndex := 339, attributes := #[] }, { accessFlags := 25, nameIndex := 361, descriptorIndex := 339, attributes := #[] }, { accessFlags := 26, nameIndex := 364, descriptorIndex := 339, attributes := #[] }, { accessFlags := 26, nameIndex := 365, descriptorIndex := 339, attributes := #[] }, { accessFlags := 26, nameIndex := 172, descriptorIndex := 173, attributes := #[] }, { accessFlags := 26, nameIndex := 176, descriptorIndex := 173, attributes := #[] }, { accessFlags := 8, nameIndex := 344, descriptorIndex := 339, attributes := #[] }, { accessFlags := 8, nameIndex := 338, descriptorIndex := 339, attributes := #[] }, { accessFlags := 4120, nameIndex := 245, descriptorIndex := 246, attributes := #[] }])
  fields := #[{ name := "E", type := .double, accessFlags := 25, slot := 0, constantValue := 0 }, { name := "PI", type := .double, accessFlags := 25, slot := 1, constantValue := 0 }, { name := "TAU", type := .double, accessFlags := 25, slot := 2, constantValue := 0 }, { name := "DEGREES_TO_RADIANS", type := .double, accessFlags := 26, slot := 3, constantValue := 0 }, { name := "RADIANS_TO_DEGREES", type := .double, accessFlags := 26, slot := 4, constantValue := 0 }, { name := "negativeZeroFloatBits", type := .long, accessFlags := 26, slot := 5, constantValue := 0 }, { name := "negativeZeroDoubleBits", type := .long, accessFlags := 26, slot := 6, constantValue := 0 }, { name := "twoToTheDoubleScaleUp", type := .double, accessFlags := 8, slot := 7, constantValue := 0 }, { name := "twoToTheDoubleScaleDown", type := .double, accessFlags := 8, slot := 8, constantValue := 0 }, { name := "$assertionsDisabled", type := .boolean, accessFlags := 4120, slot := 9, constantValue := 0 }]
  methods := #[k9m0, k9m1]
  instanceTypes := #[]
  staticTypes := #[.double, .double, .double, .double, .double, .long, .long, .double, .double, .boolean]
  resolved := Array.replicate 460 none
  statics := none }

def pool10 : Array CpInfo := pool [(2, .class_ 4), (1, u "java/lang/Object"), (0, u "<init>"), (0, u "()V"), (1, .class_ 10), (1, u "java/lang/System"), (0, u "allowSecurityManager"), (0, u "I"), (16, u "cons"), (0, u "Ljava/io/Console;"), (77, .class_ 110), (1, u "java/lang/System$CallersHolder"), (43, u "initialErrStream"), (0, u "Ljava/io/PrintStream;"), (19, u "security"), (0, u "Ljava/lang/SecurityManager;"), (31, .class_ 209), (0, u "java/lang/System$1"), (7, u "props"), (0, u "Ljava/util/Properties;"), (2, u "lineSeparator"), (0, u "Ljava/lang/String;"), (96, .class_ 321), (1, u "java/lang/System$LoggerFinder"), (5, .class_ 328), (0, u "java/lang/System$Logger"), (67, u "err"), (2, u "out"), (91, u "notSupportedJnuEncoding"), (15, u "in"), (17, u "initialIn"), (0, u "Ljava/io/InputStream;"), (35, u "bootLayer"), (0, u "Ljava/lang/ModuleLayer;"), (99, .class_ 664), (0, u "java/lang/System$2"), (9, u "NEVER"), (2, u "MAYBE"), (49, u "arraycopy"), (0, u "(Ljava/lang/Object;ILjava/lang/Object;II)V"), (72, .class_ 802), (0, u "java/lang/System$Logger$Level")] 31

def k10m0 : Method := { name := "<init>", desc := "()V", sig := { parameters := [], returnType := none }, accessFlags := 2, code := none }
def k10m1 : Method := { name := "arraycopy", desc := "(Ljava/lang/Object;ILjava/lang/Object;II)V", sig := { parameters := [(.object "java/lang/Object"), .int, (.object "java/lang/Object"), .int, .int], returnType := none }, accessFlags := 265, code := none }
/-- java/lang/System -/
def k10 : Class := { plain "java/lang/System" (some 0) with
  accessFlags := 49
  interfaces := #[]
  cf := some (fileOf pool10 8 #[.nestMembers #[319, 327, 801, 108, 663, 208]] #[{ accessFlags := 2, nameIndex := 5, descriptorIndex := 6, attributes := #[] }, { accessFlags := 265, nameIndex := 727, descriptorIndex := 728, attributes := #[] }] 49 2 #[] #[{ accessFlags := 25, nameIndex := 507, descriptorIndex := 526, attributes := #[] }, { accessFlags := 25, nameIndex := 399, descriptorIndex := 155, attributes := #[] }, { accessFlags := 25, nameIndex := 396, descriptorIndex := 155, attributes := #[] }, { accessFlags := 10, nameIndex := 525, descriptorIndex := 526, attributes := #[] }, { accessFlags := 26, nameIndex := 674, descriptorIndex := 12, attributes := #[] }, { accessFlags := 26, nameIndex := 677, descriptorIndex := 12, attributes := #[] }, { accessFlags := 10, nameIndex := 11, descriptorIndex := 12, attributes := #[] }, { accessFlags := 74, nameIndex := 175, descriptorIndex := 176, attributes := #[] }, { accessFlags := 10, nameIndex := 491, descriptorIndex := 222, attributes := #[] }, { accessFlags := 74, nameIndex := 29, descriptorIndex := 30, attributes := #[] }, { accessFlags := 74, nameIndex := 154, descriptorIndex := 155, attributes := #[] }, { accessFlags := 10, nameIndex := 217, descriptorIndex := 218, attributes := #[] }, { accessFlags := 10, nameIndex := 221, descriptorIndex := 222, attributes := #[] }, { accessFlags := 8, nameIndex := 562, descriptorIndex := 563, attributes := #[] }])
  fields := #[{ name := "in", type := (.object "java/io/InputStream"), accessFlags := 25, slot := 0, constantValue := 0 }, { name := "out", type := (.object "java/io/PrintStream"), accessFlags := 25, slot := 1, constantValue := 0 }, { name := "err", type := (.object "java/io/PrintStream"), accessFlags := 25, slot := 2, constantValue := 0 }, { name := "initialIn", type := (.object "java/io/InputStream"), accessFlags := 10, slot := 3, constantValue := 0 }, { name := "NEVER", type := .int, accessFlags := 26, slot := 4, constantValue := 0 }, { name := "MAYBE", type := .int, accessFlags := 26, slot := 5, constantValue := 0 }, { name := "allowSecurityManager", type := .int, accessFlags := 10, slot := 6, constantValue := 0 }, { name := "security", type := (.object "java/lang/SecurityManager"), accessFlags := 74, slot := 7, constantValue := 0 }, { name := "notSupportedJnuEncoding", type := (.object "java/lang/String"), accessFlags := 10, slot := 8, constantValue := 0 }, { name := "cons", type := (.object "java/io/Console"), accessFlags := 74, slot := 9, constantValue := 0 }, { name := "initialErrStream", type := (.object "java/io/PrintStream"), accessFlags := 74, slot := 10, constantValue := 0 }, { name := "props", type := (.object "java/util/Properties"), accessFlags := 10, slot := 11, constantValue := 0 }, { name := "lineSeparator", type := (.object "java/lang/String"), accessFlags := 10, slot := 12, constantValue := 0 }, { name := "bootLayer", type := (.object "java/lang/ModuleLayer"), accessFlags := 8, slot := 13, constantValue := 0 }]
  methods := #[k10m0, k10m1]
  instanceTypes := #[]
  staticTypes := #[(.object "java/io/InputStream"), (.object "java/io/PrintStream"), (.object "java/io/PrintStream"), (.object "java/io/InputStream"), .int, .int, .int, (.object "java/lang/SecurityManager"), (.object "java/lang/String"), (.object "java/io/Console"), (.object "java/io/PrintStream"), (.object "java/util/Properties"), (.object "java/lang/String"), (.object "java/lang/ModuleLayer")]
  resolved := Array.replicate 834 none
  statics := none }

def pool11 : Array CpInfo := pool [(1, u "java/lang/Cloneable"), (0, .class_ 1), (0, u "java/lang/Object"), (0, .class_ 3)] 3

/-- java/lang/Cloneable -/
def k11 : Class := { plain "java/lang/Cloneable" (some 0) with
  accessFlags := 1537
  interfaces := #[]
  cf := some (fileOf pool11 2 #[] #[] 1537 4 #[] #[])
  fields := #[]
  methods := #[]
  instanceTypes := #[]
  staticTypes := #[]
  resolved := Array.replicate 8 none
  statics := none }

/-- the primitive byte -/
def k12 : Class := { plain "byte" none with kind := .primitive 'B', accessFlags := 0x411 }
/-- [B -/
def k13 : Class := { plain "[B" (some 0) with kind := .array 12 .byte, interfaces := #[11, 4], accessFlags := 1041 }

/-- the primitive int -/
def k14 : Class := { plain "int" none with kind := .primitive 'I', accessFlags := 0x411 }
/-- [I -/
def k15 : Class := { plain "[I" (some 0) with kind := .array 14 .int, interfaces := #[11, 4], accessFlags := 1041 }

/-- the primitive long -/
def k16 : Class := { plain "long" none with kind := .primitive 'J', accessFlags := 0x411 }
/-- [J -/
def k17 : Class := { plain "[J" (some 0) with kind := .array 16 .long, interfaces := #[11, 4], accessFlags := 1041 }

/-- [Ljava/math/BigDecimal; -/
def k18 : Class := { plain "[Ljava/math/BigDecimal;" (some 0) with kind := .array 7 (.object "java/math/BigDecimal"), interfaces := #[11, 4], accessFlags := 1041 }

def heap : Heap := #[]
def classes : Array Class := #[k0, k1, k2, k3, k4, k5, k6, k7, k8, k9, k10, k11, k12, k13, k14, k15, k16, k17, k18]
def interned : List (Array UInt16 × Addr) := []
def slotsUsed : Nat := 0
def theMethod : MethodId := ⟨1, 3⟩
def args0 : Array Value := #[.int 5, .int 1, .int 2, .int 3]
def aboutOver (below : List Frame) : State where
  vm := { classes := classes, interned := interned.toArray }
  heap := heap
  slotsUsed := slotsUsed
  threads := #[{ frames := .invoking theMethod args0 :: below }]
def below0 : List Frame := [.native { method := ⟨0, 0⟩, args := #[] }]
def about1 : State := aboutOver below0
def p0 : Program := .bare "" "" ""
def e0 : Env := launch0.env 0 0 0
theorem w_frames : about1.frames = Frame.invoking theMethod args0 :: below0 := rfl
set_option maxRecDepth 65536 in
theorem w_args : argsFit about1.vm theMethod args0 = true := by decide +kernel
set_option maxRecDepth 65536 in
theorem w_heap : heapFits about1 = true := by decide +kernel
set_option maxRecDepth 65536 in
theorem w_runnable : about1.curStatus? = some .runnable := by decide +kernel
set_option maxRecDepth 65536 in
theorem w_alone : about1.alone = true := by decide +kernel
set_option maxRecDepth 65536 in
theorem w_named : about1.methodNamed? x = some theMethod := by decide +kernel
set_option maxRecDepth 65536 in
theorem w_hears : about1.hears theMethod below0 = true := by decide +kernel
set_option maxRecDepth 65536 in
theorem w_ripe : about1.ripe theMethod args0 below0 = true := by decide +kernel
theorem w_running : about1.status = .running := rfl
set_option maxRecDepth 65536 in
theorem w_room : about1.hasRoom e0.platform room_1 = true :=
  launch0.hasRoom_least _ room_1 (by decide +kernel) (by decide +kernel) (by decide +kernel) (by decide +kernel) (by decide +kernel) (by decide +kernel)
theorem allAtoms_all (ts : List Jvm.Cond) (a : Array Jvm.Value) (st : Jvm.State) : (allAtoms ts).before a st = ts.all (fun c => c.before a st) := by
  induction ts with
  | nil => rfl
  | cons c t ih =>
    show (Jvm.Cond.and c (allAtoms t)).before a st = _
    rw [Jvm.Cond.before_and, ih, List.all_cons]
def words1 : List Jvm.Cond := Jvm.Cond.code x code maxLocals ret :: tables_1
/-- a 'code' word, met by the world's own term for the bytes: nothing is compared byte by byte -/
theorem code_word {y : MethodName} {bytes : ByteArray} {mx : Nat} {rt : Option FieldType} {a : Array Value} {s : State} {m : MethodId} {meth : Method} {c : Code} (h1 : s.methodNamed? y = some m) (h2 : s.vm.method? m = some meth) (h3 : meth.code = some c) (h4 : c.code = bytes)
    (h5 : (c.maxLocals == mx && c.exceptionTable.isEmpty && decide (c.maxStack ≤ mostOperands) && decide (meth.sig.returnType = rt) && !meth.locks && decide (parseMethodDescriptor y.desc = some meth.sig)) = true) : (Jvm.Cond.code y bytes mx rt).before a s = true := by
  simp only [Bool.and_eq_true, beq_iff_eq, Bool.not_eq_true', decide_eq_true_eq] at h5
  obtain ⟨⟨⟨⟨⟨g1, g2⟩, g3⟩, g4⟩, g5⟩, g6⟩ := h5
  simp [Cond.before, Cond.holds, Cond.value, h1, h2, h3, h4, g1, g2, g3, g4, g5, g6]
def isCode : Jvm.Cond → Bool
  | .code _ _ _ _ => true
  | _ => false
theorem all_split {L : List Jvm.Cond} {P : Jvm.Cond → Bool} (h1 : L.all (fun c => isCode c || P c) = true) (h2 : ∀ c ∈ L.filter isCode, P c = true) : L.all P = true := by
  refine List.all_eq_true.mpr fun c hc => ?_
  have h := List.all_eq_true.mp h1 c hc
  rcases Bool.eq_false_or_eq_true (isCode c) with hi | hi
  · exact h2 c (List.mem_filter.mpr ⟨hc, hi⟩)
  · simpa [hi] using h
set_option maxRecDepth 65536 in
theorem w_c0 : (Jvm.Cond.code x code maxLocals ret).before args0 about1 = true := code_word (m := ⟨1, 3⟩) (meth := k1m3) (c := k1c3) (by decide +kernel) rfl rfl rfl (by decide +kernel)
set_option maxRecDepth 65536 in
theorem w_c1 : (Jvm.Cond.code ({ cls := "com/example/tracewarden/tracewarden/monitor/WindowEntries", name := "<init>", desc := "(I)V" } : Jvm.MethodName) prog_144_method_1_code (2 : Nat) (Option.none : Option Jvm.ClassFile.FieldType)).before args0 about1 = true := code_word (m := ⟨2, 0⟩) (meth := k2m0) (c := k2c0) (by decide +kernel) rfl rfl rfl (by decide +kernel)
set_option maxRecDepth 65536 in
theorem w_c2 : (Jvm.Cond.code ({ cls := "java/lang/Object", name := "<init>", desc := "()V" } : Jvm.MethodName) object_method_1_code (1 : Nat) (Option.none : Option Jvm.ClassFile.FieldType)).before args0 about1 = true := code_word (m := ⟨0, 0⟩) (meth := k0m0) (c := k0c0) (by decide +kernel) rfl rfl rfl (by decide +kernel)
set_option maxRecDepth 65536 in
theorem w_c3 : (Jvm.Cond.code ({ cls := "com/example/tracewarden/tracewarden/monitor/Openings", name := "timed", desc := "()Lcom/example/tracewarden/tracewarden/monitor/Openings;" } : Jvm.MethodName) prog_92_method_2_code (1 : Nat) (Option.some (Jvm.ClassFile.FieldType.object "com/example/tracewarden/tracewarden/monitor/Openings"))).before args0 about1 = true := code_word (m := ⟨3, 1⟩) (meth := k3m1) (c := k3c1) (by decide +kernel) rfl rfl rfl (by decide +kernel)
set_option maxRecDepth 65536 in
theorem w_c4 : (Jvm.Cond.code ({ cls := "com/example/tracewarden/tracewarden/monitor/Openings", name := "<init>", desc := "()V" } : Jvm.MethodName) prog_92_method_1_code (1 : Nat) (Option.none : Option Jvm.ClassFile.FieldType)).before args0 about1 = true := code_word (m := ⟨3, 0⟩) (meth := k3m0) (c := k3c0) (by decide +kernel) rfl rfl rfl (by decide +kernel)
set_option maxRecDepth 65536 in
theorem w_c5 : (Jvm.Cond.code ({ cls := "com/example/tracewarden/tracewarden/monitor/WindowEntries", name := "add", desc := "(JLjava/math/BigDecimal;I)V" } : Jvm.MethodName) prog_144_method_14_code (5 : Nat) (Option.none : Option Jvm.ClassFile.FieldType)).before args0 about1 = true := code_word (m := ⟨2, 2⟩) (meth := k2m2) (c := k2c2) (by decide +kernel) rfl rfl rfl (by decide +kernel)
set_option maxRecDepth 65536 in
theorem w_c6 : (Jvm.Cond.code ({ cls := "com/example/tracewarden/tracewarden/monitor/WindowEntries", name := "addStretch", desc := "(I)V" } : Jvm.MethodName) prog_144_method_16_code (2 : Nat) (Option.none : Option Jvm.ClassFile.FieldType)).before args0 about1 = true := code_word (m := ⟨2, 3⟩) (meth := k2m3) (c := k2c3) (by decide +kernel) rfl rfl rfl (by decide +kernel)
set_option maxRecDepth 65536 in
theorem w_c7 : (Jvm.Cond.code ({ cls := "com/example/tracewarden/tracewarden/monitor/Openings", name := "add", desc := "(JLjava/math/BigDecimal;)V" } : Jvm.MethodName) prog_92_method_9_code (4 : Nat) (Option.none : Option Jvm.ClassFile.FieldType)).before args0 about1 = true := code_word (m := ⟨3, 2⟩) (meth := k3m2) (c := k3c2) (by decide +kernel) rfl rfl rfl (by decide +kernel)
set_option maxRecDepth 65536 in
theorem w_c8 : (Jvm.Cond.code ({ cls := "com/example/tracewarden/tracewarden/monitor/Openings", name := "makeRoom", desc := "()V" } : Jvm.MethodName) prog_92_method_10_code (1 : Nat) (Option.none : Option Jvm.ClassFile.FieldType)).before args0 about1 = true := code_word (m := ⟨3, 3⟩) (meth := k3m3) (c := k3c3) (by decide +kernel) rfl rfl rfl (by decide +kernel)
set_option maxRecDepth 65536 in
theorem w_c9 : (Jvm.Cond.code ({ cls := "java/util/Arrays", name := "copyOf", desc := "([II)[I" } : Jvm.MethodName) jdk_65_method_123_code (3 : Nat) (Option.some (Jvm.ClassFile.FieldType.array Jvm.ClassFile.FieldType.int))).before args0 about1 = true := code_word (m := ⟨8, 1⟩) (meth := k8m1) (c := k8c1) (by decide +kernel) rfl rfl rfl (by decide +kernel)
set_option maxRecDepth 65536 in
theorem w_c10 : (Jvm.Cond.code ({ cls := "java/lang/Math", name := "min", desc := "(II)I" } : Jvm.MethodName) jdk_29_method_69_code (2 : Nat) (Option.some Jvm.ClassFile.FieldType.int)).before args0 about1 = true := code_word (m := ⟨9, 1⟩) (meth := k9m1) (c := k9c1) (by decide +kernel) rfl rfl rfl (by decide +kernel)
set_option maxRecDepth 65536 in
theorem w_c11 : (Jvm.Cond.code ({ cls := "com/example/tracewarden/tracewarden/monitor/WindowEntries", name := "dropAndJoin", desc := "(I)V" } : Jvm.MethodName) prog_144_method_20_code (9 : Nat) (Option.none : Option Jvm.ClassFile.FieldType)).before args0 about1 = true := code_word (m := ⟨2, 4⟩) (meth := k2m4) (c := k2c4) (by decide +kernel) rfl rfl rfl (by decide +kernel)
set_option maxRecDepth 65536 in
theorem w_c12 : (Jvm.Cond.code ({ cls := "com/example/tracewarden/tracewarden/monitor/WindowEntries", name := "forgetFound", desc := "()V" } : Jvm.MethodName) prog_144_method_21_code (1 : Nat) (Option.none : Option Jvm.ClassFile.FieldType)).before args0 about1 = true := code_word (m := ⟨2, 5⟩) (meth := k2m5) (c := k2c5) (by decide +kernel) rfl rfl rfl (by decide +kernel)
set_option maxRecDepth 65536 in
theorem w_c13 : (Jvm.Cond.code ({ cls := "com/example/tracewarden/tracewarden/monitor/WindowEntries", name := "stretchOf", desc := "(I)I" } : Jvm.MethodName) prog_144_method_12_code (2 : Nat) (Option.some Jvm.ClassFile.FieldType.int)).before args0 about1 = true := code_word (m := ⟨2, 1⟩) (meth := k2m1) (c := k2c1) (by decide +kernel) rfl rfl rfl (by decide +kernel)
set_option maxRecDepth 65536 in
theorem w_c14 : (Jvm.Cond.code ({ cls := "com/example/tracewarden/tracewarden/monitor/WindowEntriesStretchOfPinLaw", name := "ref", desc := "(II)I" } : Jvm.MethodName) method_3_code (3 : Nat) (Option.some Jvm.ClassFile.FieldType.int)).before args0 about1 = true := code_word (m := ⟨1, 2⟩) (meth := k1m2) (c := k1c2) (by decide +kernel) rfl rfl rfl (by decide +kernel)
set_option maxRecDepth 65536 in
theorem w_c15 : (Jvm.Cond.code ({ cls := "com/example/tracewarden/tracewarden/monitor/WindowEntriesStretchOfPinLaw", name := "d", desc := "(II)I" } : Jvm.MethodName) method_2_code (2 : Nat) (Option.some Jvm.ClassFile.FieldType.int)).before args0 about1 = true := code_word (m := ⟨1, 1⟩) (meth := k1m1) (c := k1c1) (by decide +kernel) rfl rfl rfl (by decide +kernel)
def codes1 : List Jvm.Cond := [Jvm.Cond.code x code maxLocals ret, Jvm.Cond.code ({ cls := "com/example/tracewarden/tracewarden/monitor/WindowEntries", name := "<init>", desc := "(I)V" } : Jvm.MethodName) prog_144_method_1_code (2 : Nat) (Option.none : Option Jvm.ClassFile.FieldType), Jvm.Cond.code ({ cls := "java/lang/Object", name := "<init>", desc := "()V" } : Jvm.MethodName) object_method_1_code (1 : Nat) (Option.none : Option Jvm.ClassFile.FieldType), Jvm.Cond.code ({ cls := "com/example/tracewarden/tracewarden/monitor/Openings", name := "timed", desc := "()Lcom/example/tracewarden/tracewarden/monitor/Openings;" } : Jvm.MethodName) prog_92_method_2_code (1 : Nat) (Option.some (Jvm.ClassFile.FieldType.object "com/example/tracewarden/tracewarden/monitor/Openings")), Jvm.Cond.code ({ cls := "com/example/tracewarden/tracewarden/monitor/Openings", name := "<init>", desc := "()V" } : Jvm.MethodName) prog_92_method_1_code (1 : Nat) (Option.none : Option Jvm.ClassFile.FieldType), Jvm.Cond.code ({ cls := "com/example/tracewarden/tracewarden/monitor/WindowEntries", name := "add", desc := "(JLjava/math/BigDecimal;I)V" } : Jvm.MethodName) prog_144_method_14_code (5 : Nat) (Option.none : Option Jvm.ClassFile.FieldType), Jvm.Cond.code ({ cls := "com/example/tracewarden/tracewarden/monitor/WindowEntries", name := "addStretch", desc := "(I)V" } : Jvm.MethodName) prog_144_method_16_code (2 : Nat) (Option.none : Option Jvm.ClassFile.FieldType), Jvm.Cond.code ({ cls := "com/example/tracewarden/tracewarden/monitor/Openings", name := "add", desc := "(JLjava/math/BigDecimal;)V" } : Jvm.MethodName) prog_92_method_9_code (4 : Nat) (Option.none : Option Jvm.ClassFile.FieldType), Jvm.Cond.code ({ cls := "com/example/tracewarden/tracewarden/monitor/Openings", name := "makeRoom", desc := "()V" } : Jvm.MethodName) prog_92_method_10_code (1 : Nat) (Option.none : Option Jvm.ClassFile.FieldType), Jvm.Cond.code ({ cls := "java/util/Arrays", name := "copyOf", desc := "([II)[I" } : Jvm.MethodName) jdk_65_method_123_code (3 : Nat) (Option.some (Jvm.ClassFile.FieldType.array Jvm.ClassFile.FieldType.int)), Jvm.Cond.code ({ cls := "java/lang/Math", name := "min", desc := "(II)I" } : Jvm.MethodName) jdk_29_method_69_code (2 : Nat) (Option.some Jvm.ClassFile.FieldType.int), Jvm.Cond.code ({ cls := "com/example/tracewarden/tracewarden/monitor/WindowEntries", name := "dropAndJoin", desc := "(I)V" } : Jvm.MethodName) prog_144_method_20_code (9 : Nat) (Option.none : Option Jvm.ClassFile.FieldType), Jvm.Cond.code ({ cls := "com/example/tracewarden/tracewarden/monitor/WindowEntries", name := "forgetFound", desc := "()V" } : Jvm.MethodName) prog_144_method_21_code (1 : Nat) (Option.none : Option Jvm.ClassFile.FieldType), Jvm.Cond.code ({ cls := "com/example/tracewarden/tracewarden/monitor/WindowEntries", name := "stretchOf", desc := "(I)I" } : Jvm.MethodName) prog_144_method_12_code (2 : Nat) (Option.some Jvm.ClassFile.FieldType.int), Jvm.Cond.code ({ cls := "com/example/tracewarden/tracewarden/monitor/WindowEntriesStretchOfPinLaw", name := "ref", desc := "(II)I" } : Jvm.MethodName) method_3_code (3 : Nat) (Option.some Jvm.ClassFile.FieldType.int), Jvm.Cond.code ({ cls := "com/example/tracewarden/tracewarden/monitor/WindowEntriesStretchOfPinLaw", name := "d", desc := "(II)I" } : Jvm.MethodName) method_2_code (2 : Nat) (Option.some Jvm.ClassFile.FieldType.int)]
set_option maxRecDepth 65536 in
theorem codes_eq : words1.filter isCode = codes1 := rfl
theorem w_codes : ∀ c ∈ words1.filter isCode, c.before args0 about1 = true := by
  rw [codes_eq]
  intro c hc
  simp only [codes1, List.mem_cons, List.not_mem_nil, or_false] at hc
  rcases hc with rfl | rfl | rfl | rfl | rfl | rfl | rfl | rfl | rfl | rfl | rfl | rfl | rfl | rfl | rfl | rfl
  · exact w_c0
  · exact w_c1
  · exact w_c2
  · exact w_c3
  · exact w_c4
  · exact w_c5
  · exact w_c6
  · exact w_c7
  · exact w_c8
  · exact w_c9
  · exact w_c10
  · exact w_c11
  · exact w_c12
  · exact w_c13
  · exact w_c14
  · exact w_c15
set_option maxRecDepth 65536 in
theorem w_t1 : (words1.take 24).all (fun c => isCode c || c.before args0 about1) = true := by decide +kernel
set_option maxRecDepth 65536 in
theorem w_t2 : ((words1.drop 24).take 24).all (fun c => isCode c || c.before args0 about1) = true := by decide +kernel
set_option maxRecDepth 65536 in
theorem w_t3 : (((words1.drop 24).drop 24).take 24).all (fun c => isCode c || c.before args0 about1) = true := by decide +kernel
set_option maxRecDepth 65536 in
theorem w_t4 : ((((words1.drop 24).drop 24).drop 24).take 24).all (fun c => isCode c || c.before args0 about1) = true := by decide +kernel
set_option maxRecDepth 65536 in
theorem w_t5 : ((((words1.drop 24).drop 24).drop 24).drop 24).all (fun c => isCode c || c.before args0 about1) = true := by decide +kernel
theorem w_tables : (allAtoms (Jvm.Cond.code x code maxLocals ret :: tables_1)).before args0 about1 = true := by
  rw [allAtoms_all]
  show words1.all (fun c => c.before args0 about1) = true
  refine all_split ?_ w_codes
  rw [← List.take_append_drop 24 words1, List.all_append, w_t1, ← List.take_append_drop 24 (words1.drop 24), List.all_append, w_t2, ← List.take_append_drop 24 ((words1.drop 24).drop 24), List.all_append, w_t3, ← List.take_append_drop 24 (((words1.drop 24).drop 24).drop 24), List.all_append, w_t4, w_t5]
  rfl
set_option maxRecDepth 65536 in
theorem w_case : (Jvm.Cond.and given_1 narrow_1).before args0 about1 = true := by decide +kernel
theorem w_applies : (headSpec (Jvm.Cond.code x code maxLocals ret :: tables_1) room_1).applies x e0.platform about1 = true :=
  (Spec.applies_iff w_frames).mpr ⟨w_running, w_runnable, w_alone, w_named, w_hears, w_ripe, w_room, w_tables⟩
theorem atStart : AtStart classFile x code maxLocals ret World_1 tables_1 room_1 Calls_1 rest_1 Pre_1 launch0 p0 e0 about1 theMethod args0 below0 :=
  ⟨lists_1, trivial, launch0.admits_env _ _ _, launch0.least_env, fairChoices_fair.cas, fairChoices_fair.clock, w_frames, w_args, w_heap, w_applies, trivial, trivial, w_case⟩
end start1
theorem witness_1 : WitnessClaimed_1 := ⟨start1.p0, start1.e0, start1.about1, start1.theMethod, start1.args0, start1.below0, start1.atStart⟩
end Jvm.Pilot.@@N@@
