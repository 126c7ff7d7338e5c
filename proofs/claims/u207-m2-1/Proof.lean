import JvmDerived
import JvmDerived.Pilot.@@N@@Statement
import JvmDerived.Pilot.@@N@@Code
set_option linter.unusedVariables false
set_option linter.unusedSimpArgs false
namespace Jvm.Pilot.@@N@@
open Jvm Jvm.ClassFile Sem Op Lib Jvm.Free Jvm.Stand Jvm.LawKit Jvm.RoadKit Bundle Jvm.Pilot.@@N@@.Jvm.D
/-! own framework: `Ok` = 'from this frame over this heap the body comes to its end with Q'; one lemma an instruction -/
abbrev Wd : Type := Program × Launch × Env × State × MethodId × Array Value × List Frame × Method × Code
abbrev Wd.p (W : Wd) : Program := W.1
abbrev Wd.l (W : Wd) : Launch := W.2.1
abbrev Wd.e (W : Wd) : Env := W.2.2.1
abbrev Wd.s (W : Wd) : State := W.2.2.2.1
abbrev Wd.m (W : Wd) : MethodId := W.2.2.2.2.1
abbrev Wd.args (W : Wd) : Array Value := W.2.2.2.2.2.1
abbrev Wd.below (W : Wd) : List Frame := W.2.2.2.2.2.2.1
abbrev Wd.meth (W : Wd) : Method := W.2.2.2.2.2.2.2.1
abbrev Wd.c (W : Wd) : Code := W.2.2.2.2.2.2.2.2
def Ok (W : Wd) (R : Room) (n0 : Nat) (Q : Option Value → Heap → Prop) (h : Heap) (k n pc : Nat) (Ls : List Slot) (st : List Value) : Prop :=
  ∀ (T : State) (locs : List Loc), Stand W.p W.l W.e R W.s W.m W.args W.below W.meth W.c T locs k n → T.heap = h → Fr n0 locs →
    ∃ s₂ o, Steps W.p.tables W.e W.below (T.setTop (mkF W.m pc Ls.toArray st)) s₂ ∧ s₂.status = .running ∧ Ended s₂ W.below o ∧ ∃ v L, o = .returned v ∧ (Q v s₂.heap ∧ Fr n0 L) ∧ FrameEnd W.s o s₂ L R.cells R.slots
def Cx (W : Wd) (Z : State) (own nm : String) (bc : ByteArray) (maxL : Nat) (rt : Option FieldType) : Prop :=
  W.p.tables.exec = Jvm.exec ∧ Z.Warmed39 W.s.vm ∧ W.c.code = bc ∧ W.c.maxLocals = maxL ∧ W.s.vm.findClass own = some W.m.cls ∧ W.meth.sig.returnType = rt ∧ W.meth.locks = false ∧ W.meth.name = nm
section Own
variable {W : Wd} {R : Room} {n0 : Nat} {Q : Option Value → Heap → Prop} {h : Heap} {k n pc : Nat} {Ls : List Slot} {st : List Value} {Z : State} {own nm : String} {bc : ByteArray} {maxL : Nat} {rt : Option FieldType} {a0 : Array Value}
theorem Ok.back {pc' : Nat} {Ls' : List Slot} {st' : List Value} (g : Ok W R n0 Q h k n pc' Ls' st')
    (hs : ∀ (T : State) (locs : List Loc), Stand W.p W.l W.e R W.s W.m W.args W.below W.meth W.c T locs k n → T.heap = h → ∀ t, Steps W.p.tables W.e W.below (T.setTop (mkF W.m pc' Ls'.toArray st')) t → Steps W.p.tables W.e W.below (T.setTop (mkF W.m pc Ls.toArray st)) t) :
    Ok W R n0 Q h k n pc Ls st := fun T locs X e N => by
  obtain ⟨s₂, o, S, r⟩ := g T locs X e N
  exact ⟨s₂, o, hs T locs X e _ S, r⟩
/-- the same, the state (not its heap) moved -/
theorem Ok.move {pc' : Nat} {Ls' : List Slot} {st' : List Value} (g : Ok W R n0 Q h k n pc' Ls' st')
    (hs : ∀ (T : State) (locs : List Loc), Stand W.p W.l W.e R W.s W.m W.args W.below W.meth W.c T locs k n → T.heap = h → ∃ T', Stand W.p W.l W.e R W.s W.m W.args W.below W.meth W.c T' locs k n ∧ T'.heap = h ∧ ∀ t, Steps W.p.tables W.e W.below (T'.setTop (mkF W.m pc' Ls'.toArray st')) t → Steps W.p.tables W.e W.below (T.setTop (mkF W.m pc Ls.toArray st)) t) :
    Ok W R n0 Q h k n pc Ls st := fun T locs X e N => by
  obtain ⟨T', X', e', st⟩ := hs T locs X e
  obtain ⟨s₂, o, S, r⟩ := g T' locs X' e' N
  exact ⟨s₂, o, st _ S, r⟩
theorem own_get {Ls : List Slot} {i : Nat} {v : Slot} (hl : Ls[i]? = some v) : Ls.toArray[i]? = some v := by simpa using hl
theorem own_store {Ls Ls' : List Slot} {i : Nat} {v : Value} {o : Slot} (hold : Ls[i]? = some o) (ho : One o) (hv : v.category = 1) (hL : Ls.set i (.val v) = Ls') : storeLocals Ls.toArray i v = some Ls'.toArray := by
  rw [XS.store1 (own_get hold) ho hv, ← hL]; simp

theorem Ok.iload (C : Cx W Z own nm bc maxL rt) {i : Nat} {v : Int32} (hd : decode bc pc = .ok (.iload i, 2)) (hl : Ls[i]? = some (.val (.int v))) (q : Nat) (hq : pc + 2 = q) (g : Ok W R n0 Q h k n q Ls (.int v :: st)) : Ok W R n0 Q h k n pc Ls st := by
  subst hq
  exact g.back fun T locs X e t s => XS.iload X.here C.1 rfl (hb C.2.2.1 hd) (own_get hl) s
theorem Ok.iloadN (C : Cx W Z own nm bc maxL rt) {i : Fin 4} {v : Int32} (hd : decode bc pc = .ok (.iload_n i, 1)) (hl : Ls[i.val]? = some (.val (.int v))) (q : Nat) (hq : pc + 1 = q) (g : Ok W R n0 Q h k n q Ls (.int v :: st)) : Ok W R n0 Q h k n pc Ls st := by
  subst hq
  exact g.back fun T locs X e t s => XS.iloadN X.here C.1 rfl (hb C.2.2.1 hd) (own_get hl) s
theorem Ok.lload (C : Cx W Z own nm bc maxL rt) {i : Nat} {v : Int64} (hd : decode bc pc = .ok (.lload i, 2)) (hl : Ls[i]? = some (.val (.long v))) (q : Nat) (hq : pc + 2 = q) (g : Ok W R n0 Q h k n q Ls (.long v :: st)) : Ok W R n0 Q h k n pc Ls st := by
  subst hq
  exact g.back fun T locs X e t s => XS.lload X.here C.1 rfl (hb C.2.2.1 hd) (own_get hl) s
theorem Ok.lloadN (C : Cx W Z own nm bc maxL rt) {i : Fin 4} {v : Int64} (hd : decode bc pc = .ok (.lload_n i, 1)) (hl : Ls[i.val]? = some (.val (.long v))) (q : Nat) (hq : pc + 1 = q) (g : Ok W R n0 Q h k n q Ls (.long v :: st)) : Ok W R n0 Q h k n pc Ls st := by
  subst hq
  exact g.back fun T locs X e t s => XS.lloadN X.here C.1 rfl (hb C.2.2.1 hd) (own_get hl) s
theorem Ok.aload (C : Cx W Z own nm bc maxL rt) {i : Nat} {v : Addr} (hd : decode bc pc = .ok (.aload i, 2)) (hl : Ls[i]? = some (.val (.ref v))) (q : Nat) (hq : pc + 2 = q) (g : Ok W R n0 Q h k n q Ls (.ref v :: st)) : Ok W R n0 Q h k n pc Ls st := by
  subst hq
  exact g.back fun T locs X e t s => XS.aload X.here C.1 rfl (hb C.2.2.1 hd) (own_get hl) rfl s
theorem Ok.aloadN (C : Cx W Z own nm bc maxL rt) {i : Fin 4} {v : Addr} (hd : decode bc pc = .ok (.aload_n i, 1)) (hl : Ls[i.val]? = some (.val (.ref v))) (q : Nat) (hq : pc + 1 = q) (g : Ok W R n0 Q h k n q Ls (.ref v :: st)) : Ok W R n0 Q h k n pc Ls st := by
  subst hq
  exact g.back fun T locs X e t s => XS.aloadN X.here C.1 rfl (hb C.2.2.1 hd) (own_get hl) rfl s
theorem Ok.istore (C : Cx W Z own nm bc maxL rt) {i : Nat} {x : Int32} {o : Slot} (hd : decode bc pc = .ok (.istore i, 2)) (hold : Ls[i]? = some o) (ho : One o) (Ls' : List Slot) (hL : Ls.set i (.val (.int x)) = Ls') (q : Nat) (hq : pc + 2 = q) (g : Ok W R n0 Q h k n q Ls' st) : Ok W R n0 Q h k n pc Ls (.int x :: st) := by
  subst hq
  exact g.back fun T locs X e t s => XS.istore X.here C.1 rfl (hb C.2.2.1 hd) rfl (own_store hold ho rfl hL) s
theorem Ok.istoreN (C : Cx W Z own nm bc maxL rt) {i : Fin 4} {x : Int32} {o : Slot} (hd : decode bc pc = .ok (.istore_n i, 1)) (hold : Ls[i.val]? = some o) (ho : One o) (Ls' : List Slot) (hL : Ls.set i.val (.val (.int x)) = Ls') (q : Nat) (hq : pc + 1 = q) (g : Ok W R n0 Q h k n q Ls' st) : Ok W R n0 Q h k n pc Ls (.int x :: st) := by
  subst hq
  exact g.back fun T locs X e t s => XS.istoreN X.here C.1 rfl (hb C.2.2.1 hd) rfl (own_store hold ho rfl hL) s
theorem Ok.astore (C : Cx W Z own nm bc maxL rt) {i : Nat} {x : Addr} {o : Slot} (hd : decode bc pc = .ok (.astore i, 2)) (hold : Ls[i]? = some o) (ho : One o) (Ls' : List Slot) (hL : Ls.set i (.val (.ref x)) = Ls') (q : Nat) (hq : pc + 2 = q) (g : Ok W R n0 Q h k n q Ls' st) : Ok W R n0 Q h k n pc Ls (.ref x :: st) := by
  subst hq
  exact g.back fun T locs X e t s => XS.astore X.here C.1 rfl (hb C.2.2.1 hd) rfl rfl (own_store hold ho rfl hL) s
theorem Ok.astoreN (C : Cx W Z own nm bc maxL rt) {i : Fin 4} {x : Addr} {o : Slot} (hd : decode bc pc = .ok (.astore_n i, 1)) (hold : Ls[i.val]? = some o) (ho : One o) (Ls' : List Slot) (hL : Ls.set i.val (.val (.ref x)) = Ls') (q : Nat) (hq : pc + 1 = q) (g : Ok W R n0 Q h k n q Ls' st) : Ok W R n0 Q h k n pc Ls (.ref x :: st) := by
  subst hq
  exact g.back fun T locs X e t s => XS.astoreN X.here C.1 rfl (hb C.2.2.1 hd) rfl rfl (own_store hold ho rfl hL) s
theorem Ok.lstore (C : Cx W Z own nm bc maxL rt) {i : Nat} {x : Int64} (hd : decode bc pc = .ok (.lstore i, 2)) (Ls' : List Slot) (hL : storeLocals Ls.toArray i (.long x) = some Ls'.toArray) (q : Nat) (hq : pc + 2 = q) (g : Ok W R n0 Q h k n q Ls' st) : Ok W R n0 Q h k n pc Ls (.long x :: st) := by
  subst hq
  exact g.back fun T locs X e t s => XS.lstore X.here C.1 rfl (hb C.2.2.1 hd) rfl hL s
theorem Ok.lstoreN (C : Cx W Z own nm bc maxL rt) {i : Fin 4} {x : Int64} (hd : decode bc pc = .ok (.lstore_n i, 1)) (Ls' : List Slot) (hL : storeLocals Ls.toArray i.val (.long x) = some Ls'.toArray) (q : Nat) (hq : pc + 1 = q) (g : Ok W R n0 Q h k n q Ls' st) : Ok W R n0 Q h k n pc Ls (.long x :: st) := by
  subst hq
  exact g.back fun T locs X e t s => XS.lstoreN X.here C.1 rfl (hb C.2.2.1 hd) rfl hL s
theorem Ok.iconst (C : Cx W Z own nm bc maxL rt) {i : Int} (hd : decode bc pc = .ok (.iconst i, 1)) (q : Nat) (hq : pc + 1 = q) (z : Int32) (hz : Int32.ofInt i = z) (g : Ok W R n0 Q h k n q Ls (.int z :: st)) : Ok W R n0 Q h k n pc Ls st := by
  subst hq hz
  exact g.back fun T locs X e t s => XS.iconst X.here C.1 rfl (hb C.2.2.1 hd) s
theorem Ok.bipush (C : Cx W Z own nm bc maxL rt) {i : Int} (hd : decode bc pc = .ok (.bipush i, 2)) (q : Nat) (hq : pc + 2 = q) (z : Int32) (hz : (Int8.ofInt i).toInt32 = z) (g : Ok W R n0 Q h k n q Ls (.int z :: st)) : Ok W R n0 Q h k n pc Ls st := by
  subst hq hz
  exact g.back fun T locs X e t s => XS.bipush X.here C.1 rfl (hb C.2.2.1 hd) s
theorem Ok.sipush (C : Cx W Z own nm bc maxL rt) {i : Int} (hd : decode bc pc = .ok (.sipush i, 3)) (q : Nat) (hq : pc + 3 = q) (z : Int32) (hz : (Int16.ofInt i).toInt32 = z) (g : Ok W R n0 Q h k n q Ls (.int z :: st)) : Ok W R n0 Q h k n pc Ls st := by
  subst hq hz
  exact g.back fun T locs X e t s => XS.sipush X.here C.1 rfl (hb C.2.2.1 hd) s
theorem Ok.lconst (C : Cx W Z own nm bc maxL rt) {i : Fin 2} (hd : decode bc pc = .ok (.lconst i, 1)) (q : Nat) (hq : pc + 1 = q) (z : Int64) (hz : Int64.ofNat i = z) (g : Ok W R n0 Q h k n q Ls (.long z :: st)) : Ok W R n0 Q h k n pc Ls st := by
  subst hq hz
  exact g.back fun T locs X e t s => XS.lconst X.here C.1 rfl (hb C.2.2.1 hd) s
theorem Ok.ldc (C : Cx W Z own nm bc maxL rt) {i : Nat} {v : Int32} (w : (Jvm.Cond.constant own i v).before a0 Z = true) (hd : decode bc pc = .ok (.ldc i, 2)) (q : Nat) (hq : pc + 2 = q) (g : Ok W R n0 Q h k n q Ls (.int v :: st)) : Ok W R n0 Q h k n pc Ls st := by
  subst hq
  exact g.back fun T locs X e t s => X.ldcInt C.1 C.2.2.2.2.1 (mvT C.2.1 w) (g := mkF W.m pc Ls.toArray st) rfl (hb C.2.2.1 hd) t s
theorem Ok.ldc2 (C : Cx W Z own nm bc maxL rt) {i : Nat} {v : Int64} (w : (Jvm.Cond.constantLong own i v).before a0 Z = true) (hd : decode bc pc = .ok (.ldc2_w i, 3)) (q : Nat) (hq : pc + 3 = q) (g : Ok W R n0 Q h k n q Ls (.long v :: st)) : Ok W R n0 Q h k n pc Ls st := by
  subst hq
  exact g.back fun T locs X e t s => X.ldc2Long C.1 C.2.2.2.2.1 (mvT C.2.1 w) (g := mkF W.m pc Ls.toArray st) rfl (hb C.2.2.1 hd) t s
theorem Ok.iadd (C : Cx W Z own nm bc maxL rt) {x : Int32} {y : Int32} (hd : decode bc pc = .ok (.iadd, 1)) (q : Nat) (hq : pc + 1 = q) (g : ∀ z, z = x + y → Ok W R n0 Q h k n q Ls (.int z :: st)) : Ok W R n0 Q h k n pc Ls (.int y :: .int x :: st) := by
  subst hq
  exact (g _ rfl).back fun T locs X e t s => XS.iadd X.here C.1 rfl (hb C.2.2.1 hd) rfl s
theorem Ok.isub (C : Cx W Z own nm bc maxL rt) {x : Int32} {y : Int32} (hd : decode bc pc = .ok (.isub, 1)) (q : Nat) (hq : pc + 1 = q) (g : ∀ z, z = x - y → Ok W R n0 Q h k n q Ls (.int z :: st)) : Ok W R n0 Q h k n pc Ls (.int y :: .int x :: st) := by
  subst hq
  exact (g _ rfl).back fun T locs X e t s => XS.isub X.here C.1 rfl (hb C.2.2.1 hd) rfl s
theorem Ok.imul (C : Cx W Z own nm bc maxL rt) {x : Int32} {y : Int32} (hd : decode bc pc = .ok (.imul, 1)) (q : Nat) (hq : pc + 1 = q) (g : ∀ z, z = x * y → Ok W R n0 Q h k n q Ls (.int z :: st)) : Ok W R n0 Q h k n pc Ls (.int y :: .int x :: st) := by
  subst hq
  exact (g _ rfl).back fun T locs X e t s => XS.imul X.here C.1 rfl (hb C.2.2.1 hd) rfl s
theorem Ok.iand (C : Cx W Z own nm bc maxL rt) {x : Int32} {y : Int32} (hd : decode bc pc = .ok (.iand, 1)) (q : Nat) (hq : pc + 1 = q) (g : ∀ z, z = x &&& y → Ok W R n0 Q h k n q Ls (.int z :: st)) : Ok W R n0 Q h k n pc Ls (.int y :: .int x :: st) := by
  subst hq
  exact (g _ rfl).back fun T locs X e t s => XS.iand X.here C.1 rfl (hb C.2.2.1 hd) rfl s
theorem Ok.ior (C : Cx W Z own nm bc maxL rt) {x : Int32} {y : Int32} (hd : decode bc pc = .ok (.ior, 1)) (q : Nat) (hq : pc + 1 = q) (g : ∀ z, z = x ||| y → Ok W R n0 Q h k n q Ls (.int z :: st)) : Ok W R n0 Q h k n pc Ls (.int y :: .int x :: st) := by
  subst hq
  exact (g _ rfl).back fun T locs X e t s => XS.ior X.here C.1 rfl (hb C.2.2.1 hd) rfl s
theorem Ok.ixor (C : Cx W Z own nm bc maxL rt) {x : Int32} {y : Int32} (hd : decode bc pc = .ok (.ixor, 1)) (q : Nat) (hq : pc + 1 = q) (g : ∀ z, z = x ^^^ y → Ok W R n0 Q h k n q Ls (.int z :: st)) : Ok W R n0 Q h k n pc Ls (.int y :: .int x :: st) := by
  subst hq
  exact (g _ rfl).back fun T locs X e t s => XS.ixor X.here C.1 rfl (hb C.2.2.1 hd) rfl s
theorem Ok.ishl (C : Cx W Z own nm bc maxL rt) {x : Int32} {y : Int32} (hd : decode bc pc = .ok (.ishl, 1)) (q : Nat) (hq : pc + 1 = q) (g : ∀ z, z = x <<< (y &&& 31) → Ok W R n0 Q h k n q Ls (.int z :: st)) : Ok W R n0 Q h k n pc Ls (.int y :: .int x :: st) := by
  subst hq
  exact (g _ rfl).back fun T locs X e t s => XS.ishl X.here C.1 rfl (hb C.2.2.1 hd) rfl s
theorem Ok.ishr (C : Cx W Z own nm bc maxL rt) {x : Int32} {y : Int32} (hd : decode bc pc = .ok (.ishr, 1)) (q : Nat) (hq : pc + 1 = q) (g : ∀ z, z = x >>> (y &&& 31) → Ok W R n0 Q h k n q Ls (.int z :: st)) : Ok W R n0 Q h k n pc Ls (.int y :: .int x :: st) := by
  subst hq
  exact (g _ rfl).back fun T locs X e t s => XS.ishr X.here C.1 rfl (hb C.2.2.1 hd) rfl s
theorem Ok.iushr (C : Cx W Z own nm bc maxL rt) {x : Int32} {y : Int32} (hd : decode bc pc = .ok (.iushr, 1)) (q : Nat) (hq : pc + 1 = q) (g : ∀ z, z = (x.toUInt32 >>> (y &&& 31).toUInt32).toInt32 → Ok W R n0 Q h k n q Ls (.int z :: st)) : Ok W R n0 Q h k n pc Ls (.int y :: .int x :: st) := by
  subst hq
  exact (g _ rfl).back fun T locs X e t s => XS.iushr X.here C.1 rfl (hb C.2.2.1 hd) rfl s
theorem Ok.ladd (C : Cx W Z own nm bc maxL rt) {x : Int64} {y : Int64} (hd : decode bc pc = .ok (.ladd, 1)) (q : Nat) (hq : pc + 1 = q) (g : ∀ z, z = x + y → Ok W R n0 Q h k n q Ls (.long z :: st)) : Ok W R n0 Q h k n pc Ls (.long y :: .long x :: st) := by
  subst hq
  exact (g _ rfl).back fun T locs X e t s => XS.ladd X.here C.1 rfl (hb C.2.2.1 hd) rfl s
theorem Ok.lsub (C : Cx W Z own nm bc maxL rt) {x : Int64} {y : Int64} (hd : decode bc pc = .ok (.lsub, 1)) (q : Nat) (hq : pc + 1 = q) (g : ∀ z, z = x - y → Ok W R n0 Q h k n q Ls (.long z :: st)) : Ok W R n0 Q h k n pc Ls (.long y :: .long x :: st) := by
  subst hq
  exact (g _ rfl).back fun T locs X e t s => XS.lsub X.here C.1 rfl (hb C.2.2.1 hd) rfl s
theorem Ok.lmul (C : Cx W Z own nm bc maxL rt) {x : Int64} {y : Int64} (hd : decode bc pc = .ok (.lmul, 1)) (q : Nat) (hq : pc + 1 = q) (g : ∀ z, z = x * y → Ok W R n0 Q h k n q Ls (.long z :: st)) : Ok W R n0 Q h k n pc Ls (.long y :: .long x :: st) := by
  subst hq
  exact (g _ rfl).back fun T locs X e t s => XS.lmul X.here C.1 rfl (hb C.2.2.1 hd) rfl s
theorem Ok.land (C : Cx W Z own nm bc maxL rt) {x : Int64} {y : Int64} (hd : decode bc pc = .ok (.land, 1)) (q : Nat) (hq : pc + 1 = q) (g : ∀ z, z = x &&& y → Ok W R n0 Q h k n q Ls (.long z :: st)) : Ok W R n0 Q h k n pc Ls (.long y :: .long x :: st) := by
  subst hq
  exact (g _ rfl).back fun T locs X e t s => XS.land X.here C.1 rfl (hb C.2.2.1 hd) rfl s
theorem Ok.lor (C : Cx W Z own nm bc maxL rt) {x : Int64} {y : Int64} (hd : decode bc pc = .ok (.lor, 1)) (q : Nat) (hq : pc + 1 = q) (g : ∀ z, z = x ||| y → Ok W R n0 Q h k n q Ls (.long z :: st)) : Ok W R n0 Q h k n pc Ls (.long y :: .long x :: st) := by
  subst hq
  exact (g _ rfl).back fun T locs X e t s => XS.lor X.here C.1 rfl (hb C.2.2.1 hd) rfl s
theorem Ok.lxor (C : Cx W Z own nm bc maxL rt) {x : Int64} {y : Int64} (hd : decode bc pc = .ok (.lxor, 1)) (q : Nat) (hq : pc + 1 = q) (g : ∀ z, z = x ^^^ y → Ok W R n0 Q h k n q Ls (.long z :: st)) : Ok W R n0 Q h k n pc Ls (.long y :: .long x :: st) := by
  subst hq
  exact (g _ rfl).back fun T locs X e t s => XS.lxor X.here C.1 rfl (hb C.2.2.1 hd) rfl s
theorem Ok.lshl (C : Cx W Z own nm bc maxL rt) {x : Int64} {y : Int32} (hd : decode bc pc = .ok (.lshl, 1)) (q : Nat) (hq : pc + 1 = q) (g : ∀ z, z = x <<< (y &&& 0x3f).toInt64 → Ok W R n0 Q h k n q Ls (.long z :: st)) : Ok W R n0 Q h k n pc Ls (.int y :: .long x :: st) := by
  subst hq
  exact (g _ rfl).back fun T locs X e t s => XS.lshl X.here C.1 rfl (hb C.2.2.1 hd) rfl s
theorem Ok.lushr (C : Cx W Z own nm bc maxL rt) {x : Int64} {y : Int32} (hd : decode bc pc = .ok (.lushr, 1)) (q : Nat) (hq : pc + 1 = q) (g : ∀ z, z = (x.toUInt64 >>> (y &&& 0x3f).toInt64.toUInt64).toInt64 → Ok W R n0 Q h k n q Ls (.long z :: st)) : Ok W R n0 Q h k n pc Ls (.int y :: .long x :: st) := by
  subst hq
  exact (g _ rfl).back fun T locs X e t s => XS.lushr X.here C.1 rfl (hb C.2.2.1 hd) rfl s
theorem Ok.idiv (C : Cx W Z own nm bc maxL rt) {x y : Int32} (hd : decode bc pc = .ok (.idiv, 1)) (hy : y ≠ 0) (q : Nat) (hq : pc + 1 = q) (g : ∀ z, z = x / y → Ok W R n0 Q h k n q Ls (.int z :: st)) : Ok W R n0 Q h k n pc Ls (.int y :: .int x :: st) := by
  subst hq
  exact (g _ rfl).back fun T locs X e t s => XS.idiv X.here C.1 rfl (hb C.2.2.1 hd) rfl hy s
theorem Ok.ldiv (C : Cx W Z own nm bc maxL rt) {x y : Int64} (hd : decode bc pc = .ok (.ldiv, 1)) (hy : y ≠ 0) (q : Nat) (hq : pc + 1 = q) (g : ∀ z, z = x / y → Ok W R n0 Q h k n q Ls (.long z :: st)) : Ok W R n0 Q h k n pc Ls (.long y :: .long x :: st) := by
  subst hq
  exact (g _ rfl).back fun T locs X e t s => XS.ldiv X.here C.1 rfl (hb C.2.2.1 hd) rfl hy s
theorem Ok.irem (C : Cx W Z own nm bc maxL rt) {x y : Int32} (hd : decode bc pc = .ok (.irem, 1)) (hy : y ≠ 0) (q : Nat) (hq : pc + 1 = q) (g : ∀ z, z = x % y → Ok W R n0 Q h k n q Ls (.int z :: st)) : Ok W R n0 Q h k n pc Ls (.int y :: .int x :: st) := by
  subst hq
  exact (g _ rfl).back fun T locs X e t s => iremM X C.1 rfl (hb C.2.2.1 hd) rfl hy s
theorem Ok.lrem (C : Cx W Z own nm bc maxL rt) {x y : Int64} (hd : decode bc pc = .ok (.lrem, 1)) (hy : y ≠ 0) (q : Nat) (hq : pc + 1 = q) (g : ∀ z, z = x % y → Ok W R n0 Q h k n q Ls (.long z :: st)) : Ok W R n0 Q h k n pc Ls (.long y :: .long x :: st) := by
  subst hq
  have g := g _ (lrem_mod x y)
  exact g.back fun T locs X e t s => XS.lrem X.here C.1 rfl (hb C.2.2.1 hd) rfl hy s
theorem Ok.i2l (C : Cx W Z own nm bc maxL rt) {x : Int32} (hd : decode bc pc = .ok (.i2l, 1)) (q : Nat) (hq : pc + 1 = q) (g : ∀ z, z = x.toInt64 → Ok W R n0 Q h k n q Ls (.long z :: st)) : Ok W R n0 Q h k n pc Ls (.int x :: st) := by
  subst hq
  exact (g _ rfl).back fun T locs X e t s => XS.i2l X.here C.1 rfl (hb C.2.2.1 hd) rfl s
theorem Ok.l2i (C : Cx W Z own nm bc maxL rt) {x : Int64} (hd : decode bc pc = .ok (.l2i, 1)) (q : Nat) (hq : pc + 1 = q) (g : ∀ z, z = x.toInt32 → Ok W R n0 Q h k n q Ls (.int z :: st)) : Ok W R n0 Q h k n pc Ls (.long x :: st) := by
  subst hq
  exact (g _ rfl).back fun T locs X e t s => XS.l2i X.here C.1 rfl (hb C.2.2.1 hd) rfl s
theorem Ok.i2b (C : Cx W Z own nm bc maxL rt) {x : Int32} (hd : decode bc pc = .ok (.i2b, 1)) (q : Nat) (hq : pc + 1 = q) (g : ∀ z, z = x.toInt8.toInt32 → Ok W R n0 Q h k n q Ls (.int z :: st)) : Ok W R n0 Q h k n pc Ls (.int x :: st) := by
  subst hq
  exact (g _ rfl).back fun T locs X e t s => XS.i2b X.here C.1 rfl (hb C.2.2.1 hd) rfl s
theorem Ok.ineg (C : Cx W Z own nm bc maxL rt) {x : Int32} (hd : decode bc pc = .ok (.ineg, 1)) (q : Nat) (hq : pc + 1 = q) (g : ∀ z, z = -x → Ok W R n0 Q h k n q Ls (.int z :: st)) : Ok W R n0 Q h k n pc Ls (.int x :: st) := by
  subst hq
  exact (g _ rfl).back fun T locs X e t s => XS.ineg X.here C.1 rfl (hb C.2.2.1 hd) rfl s
theorem Ok.lneg (C : Cx W Z own nm bc maxL rt) {x : Int64} (hd : decode bc pc = .ok (.lneg, 1)) (q : Nat) (hq : pc + 1 = q) (g : ∀ z, z = -x → Ok W R n0 Q h k n q Ls (.long z :: st)) : Ok W R n0 Q h k n pc Ls (.long x :: st) := by
  subst hq
  exact (g _ rfl).back fun T locs X e t s => XS.lneg X.here C.1 rfl (hb C.2.2.1 hd) rfl s
theorem Ok.iinc (C : Cx W Z own nm bc maxL rt) {i : Nat} {cst : Int} {x : Int32} (hd : decode bc pc = .ok (.iinc i cst, 3)) (hl : Ls[i]? = some (.val (.int x))) (z : Int32) (hz : Int32.ofInt cst = z) (Ls' : Int32 → List Slot) (hL : ∀ y, Ls.set i (.val (.int y)) = Ls' y) (q : Nat) (hq : pc + 3 = q) (g : ∀ y, y = x + z → Ok W R n0 Q h k n q (Ls' y) st) : Ok W R n0 Q h k n pc Ls st := by
  subst hq hz
  exact (g _ rfl).back fun T locs X e t s => XS.iinc X.here C.1 rfl (hb C.2.2.1 hd) (own_get hl) (own_store hl (One.val rfl) rfl (hL _)) s
theorem Ok.dup (C : Cx W Z own nm bc maxL rt) {x : Value} (hd : decode bc pc = .ok (.dup, 1)) (hc : x.category = 1) (q : Nat) (hq : pc + 1 = q) (g : Ok W R n0 Q h k n q Ls (x :: x :: st)) : Ok W R n0 Q h k n pc Ls (x :: st) := by
  subst hq
  exact g.back fun T locs X e t s => XS.dup X.here C.1 rfl (hb C.2.2.1 hd) rfl hc s
theorem Ok.pop (C : Cx W Z own nm bc maxL rt) {x : Value} (hd : decode bc pc = .ok (.pop, 1)) (hc : x.category = 1) (q : Nat) (hq : pc + 1 = q) (g : Ok W R n0 Q h k n q Ls st) : Ok W R n0 Q h k n pc Ls (x :: st) := by
  subst hq
  exact g.back fun T locs X e t s => XS.pop X.here C.1 rfl (hb C.2.2.1 hd) rfl hc s
theorem Ok.dupX1 (C : Cx W Z own nm bc maxL rt) {x y : Value} (hd : decode bc pc = .ok (.dup_x1, 1)) (hc : x.category = 1) (hc2 : y.category = 1) (q : Nat) (hq : pc + 1 = q) (g : Ok W R n0 Q h k n q Ls (x :: y :: x :: st)) : Ok W R n0 Q h k n pc Ls (x :: y :: st) := by
  subst hq
  exact g.back fun T locs X e t s => XS.dupX1 X.here C.1 rfl (hb C.2.2.1 hd) rfl hc hc2 s
theorem Ok.dup2 (C : Cx W Z own nm bc maxL rt) {x y : Value} (hd : decode bc pc = .ok (.dup2, 1)) (hc : x.category = 1) (hc2 : y.category = 1) (q : Nat) (hq : pc + 1 = q) (g : Ok W R n0 Q h k n q Ls (x :: y :: x :: y :: st)) : Ok W R n0 Q h k n pc Ls (x :: y :: st) := by
  subst hq
  exact g.back fun T locs X e t s => by
    have hd' := hb C.2.2.1 hd
    have hx := C.1
    show Steps _ _ _ (T.setTop { method := W.m, pc := pc, locals := Ls.toArray, stack := x :: y :: st, locked := none }) _
    jvm_step X.here [X.here.top, hx, hd', hc, hc2]
    exact s
theorem Ok.dupX2 (C : Cx W Z own nm bc maxL rt) {x y z : Value} (hd : decode bc pc = .ok (.dup_x2, 1)) (hc : x.category = 1) (hc2 : y.category = 1) (hc3 : z.category = 1) (q : Nat) (hq : pc + 1 = q) (g : Ok W R n0 Q h k n q Ls (x :: y :: z :: x :: st)) : Ok W R n0 Q h k n pc Ls (x :: y :: z :: st) := by
  subst hq
  exact g.back fun T locs X e t s => by
    have hd' := hb C.2.2.1 hd
    have hx := C.1
    show Steps _ _ _ (T.setTop { method := W.m, pc := pc, locals := Ls.toArray, stack := x :: y :: z :: st, locked := none }) _
    jvm_step X.here [X.here.top, hx, hd', hc, hc2, hc3]
    exact s
theorem Ok.goto (C : Cx W Z own nm bc maxL rt) {o : Int} (hd : decode bc pc = .ok (.goto o, 3)) (q : Nat) (hq : (pc : Int) + o = q) (g : Ok W R n0 Q h k n q Ls st) : Ok W R n0 Q h k n pc Ls st :=
  g.back fun T locs X e t s => XS.goto X.here C.1 rfl (pc0 := pc) (pc' := q) rfl (hb C.2.2.1 hd) (by omega) (by omega) s
theorem Ok.icmpB (C : Cx W Z own nm bc maxL rt) {cd : ClassFile.Cond} {x y : Int32} {o : Int} (hd : decode bc pc = .ok (.if_icmp cd o, 3)) (t q : Nat) (ht : (pc : Int) + o = t) (hq : pc + 3 = q) (g1 : if_icmp.holds cd x y = true → Ok W R n0 Q h k n t Ls st) (g2 : if_icmp.holds cd x y = false → Ok W R n0 Q h k n q Ls st) : Ok W R n0 Q h k n pc Ls (.int y :: .int x :: st) := by
  subst hq
  cases hc : if_icmp.holds cd x y
  · exact (g2 hc).back fun T locs X e t s => XS.icmpNo X.here C.1 rfl (hb C.2.2.1 hd) rfl hc s
  · exact (g1 hc).back fun T locs X e t' s => XS.icmpYes X.here C.1 rfl (pc0 := pc) (pc' := t) rfl (hb C.2.2.1 hd) rfl hc (by omega) (by omega) s
theorem Ok.ifB (C : Cx W Z own nm bc maxL rt) {cd : ClassFile.Cond} {x : Int32} {o : Int} (hd : decode bc pc = .ok (.ifCond cd o, 3)) (t q : Nat) (ht : (pc : Int) + o = t) (hq : pc + 3 = q) (g1 : if_icmp.holds cd x 0 = true → Ok W R n0 Q h k n t Ls st) (g2 : if_icmp.holds cd x 0 = false → Ok W R n0 Q h k n q Ls st) : Ok W R n0 Q h k n pc Ls (.int x :: st) := by
  subst hq
  cases hc : if_icmp.holds cd x 0
  · exact (g2 hc).back fun T locs X e t s => XS.ifNo X.here C.1 rfl (hb C.2.2.1 hd) rfl ((if0 _ _).trans hc) s
  · exact (g1 hc).back fun T locs X e t' s => XS.ifYes X.here C.1 rfl (pc0 := pc) (pc' := t) rfl (hb C.2.2.1 hd) rfl ((if0 _ _).trans hc) (by omega) (by omega) s
theorem Ok.lcmp (C : Cx W Z own nm bc maxL rt) {x y : Int64} (hd : decode bc pc = .ok (.lcmp, 1)) (q : Nat) (hq : pc + 1 = q) (g : Ok W R n0 Q h k n q Ls (.int (lcmpW x y) :: st)) : Ok W R n0 Q h k n pc Ls (.long y :: .long x :: st) := by
  subst hq
  exact g.back fun T locs X e t s => XS.lcmp X.here C.1 rfl (hb C.2.2.1 hd) rfl s
theorem h_lt {x y : Int32} : (if_icmp.holds .lt x y = true → x.toInt < y.toInt) ∧ (if_icmp.holds .lt x y = false → y.toInt ≤ x.toInt) := by simp [if_icmp.holds, Int32.lt_iff_toInt_lt]
theorem h_ge {x y : Int32} : (if_icmp.holds .ge x y = true → y.toInt ≤ x.toInt) ∧ (if_icmp.holds .ge x y = false → x.toInt < y.toInt) := by simp [if_icmp.holds, Int32.le_iff_toInt_le]
theorem h_gt {x y : Int32} : (if_icmp.holds .gt x y = true → y.toInt < x.toInt) ∧ (if_icmp.holds .gt x y = false → x.toInt ≤ y.toInt) := by simp [if_icmp.holds, Int32.lt_iff_toInt_lt]
theorem h_le {x y : Int32} : (if_icmp.holds .le x y = true → x.toInt ≤ y.toInt) ∧ (if_icmp.holds .le x y = false → y.toInt < x.toInt) := by simp [if_icmp.holds, Int32.le_iff_toInt_le]
theorem h_eq {x y : Int32} : (if_icmp.holds .eq x y = true → x.toInt = y.toInt) ∧ (if_icmp.holds .eq x y = false → x.toInt ≠ y.toInt) := by simp [if_icmp.holds, Int32.toInt_inj]
theorem h_ne {x y : Int32} : (if_icmp.holds .ne x y = true → x.toInt ≠ y.toInt) ∧ (if_icmp.holds .ne x y = false → x.toInt = y.toInt) := by simp [if_icmp.holds, Int32.toInt_inj]
theorem lw_z (x y : Int64) : (lcmpW x y).toInt = 1 ∧ y.toInt < x.toInt ∨ (lcmpW x y).toInt = 0 ∧ x.toInt = y.toInt ∨ (lcmpW x y).toInt = -1 ∧ x.toInt < y.toInt := by
  obtain ⟨a, b, c⟩ := c_lcmp x y
  by_cases h1 : x.toInt < y.toInt
  · exact Or.inr (Or.inr ⟨a h1, h1⟩)
  · by_cases h2 : x.toInt = y.toInt
    · exact Or.inr (Or.inl ⟨b h2, h2⟩)
    · exact Or.inl ⟨c (by omega), by omega⟩
theorem z32 : (0 : Int32).toInt = 0 := rfl
theorem Ok.icmp_lt (C : Cx W Z own nm bc maxL rt) {x y : Int32} {o : Int} (hd : decode bc pc = .ok (.if_icmp .lt o, 3)) (t q : Nat) (ht : (pc : Int) + o = t) (hq : pc + 3 = q) (g1 : x.toInt < y.toInt → Ok W R n0 Q h k n t Ls st) (g2 : y.toInt ≤ x.toInt → Ok W R n0 Q h k n q Ls st) : Ok W R n0 Q h k n pc Ls (.int y :: .int x :: st) :=
  Ok.icmpB C hd t q ht hq (fun z => g1 (h_lt.1 z)) (fun z => g2 (h_lt.2 z))
theorem Ok.if_lt (C : Cx W Z own nm bc maxL rt) {x : Int32} {o : Int} (hd : decode bc pc = .ok (.ifCond .lt o, 3)) (t q : Nat) (ht : (pc : Int) + o = t) (hq : pc + 3 = q) (g1 : x.toInt < 0 → Ok W R n0 Q h k n t Ls st) (g2 : 0 ≤ x.toInt → Ok W R n0 Q h k n q Ls st) : Ok W R n0 Q h k n pc Ls (.int x :: st) :=
  Ok.ifB C hd t q ht hq (fun z => g1 (h_lt.1 z)) (fun z => g2 (h_lt.2 z))
theorem Ok.lcmp_lt (C : Cx W Z own nm bc maxL rt) {x y : Int64} {o : Int} (hd0 : decode bc pc = .ok (.lcmp, 1)) (hd : decode bc (pc + 1) = .ok (.ifCond .lt o, 3)) (t q : Nat) (ht : ((pc + 1 : Nat) : Int) + o = t) (hq : pc + 1 + 3 = q) (g1 : x.toInt < y.toInt → Ok W R n0 Q h k n t Ls st) (g2 : y.toInt ≤ x.toInt → Ok W R n0 Q h k n q Ls st) : Ok W R n0 Q h k n pc Ls (.long y :: .long x :: st) :=
  Ok.lcmp C hd0 _ rfl (Ok.if_lt C hd t q ht hq (fun z => g1 (by have := lw_z x y; omega)) (fun z => g2 (by have := lw_z x y; omega)))
theorem Ok.icmp_ge (C : Cx W Z own nm bc maxL rt) {x y : Int32} {o : Int} (hd : decode bc pc = .ok (.if_icmp .ge o, 3)) (t q : Nat) (ht : (pc : Int) + o = t) (hq : pc + 3 = q) (g1 : y.toInt ≤ x.toInt → Ok W R n0 Q h k n t Ls st) (g2 : x.toInt < y.toInt → Ok W R n0 Q h k n q Ls st) : Ok W R n0 Q h k n pc Ls (.int y :: .int x :: st) :=
  Ok.icmpB C hd t q ht hq (fun z => g1 (h_ge.1 z)) (fun z => g2 (h_ge.2 z))
theorem Ok.if_ge (C : Cx W Z own nm bc maxL rt) {x : Int32} {o : Int} (hd : decode bc pc = .ok (.ifCond .ge o, 3)) (t q : Nat) (ht : (pc : Int) + o = t) (hq : pc + 3 = q) (g1 : 0 ≤ x.toInt → Ok W R n0 Q h k n t Ls st) (g2 : x.toInt < 0 → Ok W R n0 Q h k n q Ls st) : Ok W R n0 Q h k n pc Ls (.int x :: st) :=
  Ok.ifB C hd t q ht hq (fun z => g1 (h_ge.1 z)) (fun z => g2 (h_ge.2 z))
theorem Ok.lcmp_ge (C : Cx W Z own nm bc maxL rt) {x y : Int64} {o : Int} (hd0 : decode bc pc = .ok (.lcmp, 1)) (hd : decode bc (pc + 1) = .ok (.ifCond .ge o, 3)) (t q : Nat) (ht : ((pc + 1 : Nat) : Int) + o = t) (hq : pc + 1 + 3 = q) (g1 : y.toInt ≤ x.toInt → Ok W R n0 Q h k n t Ls st) (g2 : x.toInt < y.toInt → Ok W R n0 Q h k n q Ls st) : Ok W R n0 Q h k n pc Ls (.long y :: .long x :: st) :=
  Ok.lcmp C hd0 _ rfl (Ok.if_ge C hd t q ht hq (fun z => g1 (by have := lw_z x y; omega)) (fun z => g2 (by have := lw_z x y; omega)))
theorem Ok.icmp_gt (C : Cx W Z own nm bc maxL rt) {x y : Int32} {o : Int} (hd : decode bc pc = .ok (.if_icmp .gt o, 3)) (t q : Nat) (ht : (pc : Int) + o = t) (hq : pc + 3 = q) (g1 : y.toInt < x.toInt → Ok W R n0 Q h k n t Ls st) (g2 : x.toInt ≤ y.toInt → Ok W R n0 Q h k n q Ls st) : Ok W R n0 Q h k n pc Ls (.int y :: .int x :: st) :=
  Ok.icmpB C hd t q ht hq (fun z => g1 (h_gt.1 z)) (fun z => g2 (h_gt.2 z))
theorem Ok.if_gt (C : Cx W Z own nm bc maxL rt) {x : Int32} {o : Int} (hd : decode bc pc = .ok (.ifCond .gt o, 3)) (t q : Nat) (ht : (pc : Int) + o = t) (hq : pc + 3 = q) (g1 : 0 < x.toInt → Ok W R n0 Q h k n t Ls st) (g2 : x.toInt ≤ 0 → Ok W R n0 Q h k n q Ls st) : Ok W R n0 Q h k n pc Ls (.int x :: st) :=
  Ok.ifB C hd t q ht hq (fun z => g1 (h_gt.1 z)) (fun z => g2 (h_gt.2 z))
theorem Ok.lcmp_gt (C : Cx W Z own nm bc maxL rt) {x y : Int64} {o : Int} (hd0 : decode bc pc = .ok (.lcmp, 1)) (hd : decode bc (pc + 1) = .ok (.ifCond .gt o, 3)) (t q : Nat) (ht : ((pc + 1 : Nat) : Int) + o = t) (hq : pc + 1 + 3 = q) (g1 : y.toInt < x.toInt → Ok W R n0 Q h k n t Ls st) (g2 : x.toInt ≤ y.toInt → Ok W R n0 Q h k n q Ls st) : Ok W R n0 Q h k n pc Ls (.long y :: .long x :: st) :=
  Ok.lcmp C hd0 _ rfl (Ok.if_gt C hd t q ht hq (fun z => g1 (by have := lw_z x y; omega)) (fun z => g2 (by have := lw_z x y; omega)))
theorem Ok.icmp_le (C : Cx W Z own nm bc maxL rt) {x y : Int32} {o : Int} (hd : decode bc pc = .ok (.if_icmp .le o, 3)) (t q : Nat) (ht : (pc : Int) + o = t) (hq : pc + 3 = q) (g1 : x.toInt ≤ y.toInt → Ok W R n0 Q h k n t Ls st) (g2 : y.toInt < x.toInt → Ok W R n0 Q h k n q Ls st) : Ok W R n0 Q h k n pc Ls (.int y :: .int x :: st) :=
  Ok.icmpB C hd t q ht hq (fun z => g1 (h_le.1 z)) (fun z => g2 (h_le.2 z))
theorem Ok.if_le (C : Cx W Z own nm bc maxL rt) {x : Int32} {o : Int} (hd : decode bc pc = .ok (.ifCond .le o, 3)) (t q : Nat) (ht : (pc : Int) + o = t) (hq : pc + 3 = q) (g1 : x.toInt ≤ 0 → Ok W R n0 Q h k n t Ls st) (g2 : 0 < x.toInt → Ok W R n0 Q h k n q Ls st) : Ok W R n0 Q h k n pc Ls (.int x :: st) :=
  Ok.ifB C hd t q ht hq (fun z => g1 (h_le.1 z)) (fun z => g2 (h_le.2 z))
theorem Ok.lcmp_le (C : Cx W Z own nm bc maxL rt) {x y : Int64} {o : Int} (hd0 : decode bc pc = .ok (.lcmp, 1)) (hd : decode bc (pc + 1) = .ok (.ifCond .le o, 3)) (t q : Nat) (ht : ((pc + 1 : Nat) : Int) + o = t) (hq : pc + 1 + 3 = q) (g1 : x.toInt ≤ y.toInt → Ok W R n0 Q h k n t Ls st) (g2 : y.toInt < x.toInt → Ok W R n0 Q h k n q Ls st) : Ok W R n0 Q h k n pc Ls (.long y :: .long x :: st) :=
  Ok.lcmp C hd0 _ rfl (Ok.if_le C hd t q ht hq (fun z => g1 (by have := lw_z x y; omega)) (fun z => g2 (by have := lw_z x y; omega)))
theorem Ok.icmp_eq (C : Cx W Z own nm bc maxL rt) {x y : Int32} {o : Int} (hd : decode bc pc = .ok (.if_icmp .eq o, 3)) (t q : Nat) (ht : (pc : Int) + o = t) (hq : pc + 3 = q) (g1 : x.toInt = y.toInt → Ok W R n0 Q h k n t Ls st) (g2 : x.toInt ≠ y.toInt → Ok W R n0 Q h k n q Ls st) : Ok W R n0 Q h k n pc Ls (.int y :: .int x :: st) :=
  Ok.icmpB C hd t q ht hq (fun z => g1 (h_eq.1 z)) (fun z => g2 (h_eq.2 z))
theorem Ok.if_eq (C : Cx W Z own nm bc maxL rt) {x : Int32} {o : Int} (hd : decode bc pc = .ok (.ifCond .eq o, 3)) (t q : Nat) (ht : (pc : Int) + o = t) (hq : pc + 3 = q) (g1 : x.toInt = 0 → Ok W R n0 Q h k n t Ls st) (g2 : x.toInt ≠ 0 → Ok W R n0 Q h k n q Ls st) : Ok W R n0 Q h k n pc Ls (.int x :: st) :=
  Ok.ifB C hd t q ht hq (fun z => g1 (h_eq.1 z)) (fun z => g2 (h_eq.2 z))
theorem Ok.lcmp_eq (C : Cx W Z own nm bc maxL rt) {x y : Int64} {o : Int} (hd0 : decode bc pc = .ok (.lcmp, 1)) (hd : decode bc (pc + 1) = .ok (.ifCond .eq o, 3)) (t q : Nat) (ht : ((pc + 1 : Nat) : Int) + o = t) (hq : pc + 1 + 3 = q) (g1 : x.toInt = y.toInt → Ok W R n0 Q h k n t Ls st) (g2 : x.toInt ≠ y.toInt → Ok W R n0 Q h k n q Ls st) : Ok W R n0 Q h k n pc Ls (.long y :: .long x :: st) :=
  Ok.lcmp C hd0 _ rfl (Ok.if_eq C hd t q ht hq (fun z => g1 (by have := lw_z x y; omega)) (fun z => g2 (by have := lw_z x y; omega)))
theorem Ok.icmp_ne (C : Cx W Z own nm bc maxL rt) {x y : Int32} {o : Int} (hd : decode bc pc = .ok (.if_icmp .ne o, 3)) (t q : Nat) (ht : (pc : Int) + o = t) (hq : pc + 3 = q) (g1 : x.toInt ≠ y.toInt → Ok W R n0 Q h k n t Ls st) (g2 : x.toInt = y.toInt → Ok W R n0 Q h k n q Ls st) : Ok W R n0 Q h k n pc Ls (.int y :: .int x :: st) :=
  Ok.icmpB C hd t q ht hq (fun z => g1 (h_ne.1 z)) (fun z => g2 (h_ne.2 z))
theorem Ok.if_ne (C : Cx W Z own nm bc maxL rt) {x : Int32} {o : Int} (hd : decode bc pc = .ok (.ifCond .ne o, 3)) (t q : Nat) (ht : (pc : Int) + o = t) (hq : pc + 3 = q) (g1 : x.toInt ≠ 0 → Ok W R n0 Q h k n t Ls st) (g2 : x.toInt = 0 → Ok W R n0 Q h k n q Ls st) : Ok W R n0 Q h k n pc Ls (.int x :: st) :=
  Ok.ifB C hd t q ht hq (fun z => g1 (h_ne.1 z)) (fun z => g2 (h_ne.2 z))
theorem Ok.lcmp_ne (C : Cx W Z own nm bc maxL rt) {x y : Int64} {o : Int} (hd0 : decode bc pc = .ok (.lcmp, 1)) (hd : decode bc (pc + 1) = .ok (.ifCond .ne o, 3)) (t q : Nat) (ht : ((pc + 1 : Nat) : Int) + o = t) (hq : pc + 1 + 3 = q) (g1 : x.toInt ≠ y.toInt → Ok W R n0 Q h k n t Ls st) (g2 : x.toInt = y.toInt → Ok W R n0 Q h k n q Ls st) : Ok W R n0 Q h k n pc Ls (.long y :: .long x :: st) :=
  Ok.lcmp C hd0 _ rfl (Ok.if_ne C hd t q ht hq (fun z => g1 (by have := lw_z x y; omega)) (fun z => g2 (by have := lw_z x y; omega)))
/-! the heap -/
theorem Ok.getfield (C : Cx W Z own nm bc maxL rt) {O f d : String} {i : Nat} {a : Addr} {v : Value} (w : (Jvm.Cond.fieldLink own i O f d).before a0 Z = true) (hd : decode bc pc = .ok (.getfield i, 3)) (F : Fld Z h a O f d v) (q : Nat) (hq : pc + 3 = q) (g : Ok W R n0 Q h k n q Ls (v :: st)) : Ok W R n0 Q h k n pc Ls (.ref a :: st) := by
  subst hq
  exact g.move fun T locs X e => getF X C.1 C.2.1 C.2.2.2.2.1 (host := "") (Or.inl w) Via.refl e F (g := mkF W.m pc Ls.toArray (.ref a :: st)) rfl rfl (hb C.2.2.1 hd)
theorem Ok.putfield (C : Cx W Z own nm bc maxL rt) {O f d K : String} {i kk : Nat} {a : Addr} {v old : Value} {ty : FieldType} (w : (Jvm.Cond.fieldLink own i O f d).before a0 Z = true) (hd : decode bc pc = .ok (.putfield i, 3)) (F : Fld Z h a O f d old) (E : Exa Z h a K) (L : (Jvm.Cond.lays K O f d).before a0 Z = true ∨ ((Jvm.Cond.laysFinal K O f d).before a0 Z = true ∧ own = O ∧ nm = "<init>")) (wi : (Jvm.Cond.instantiable K kk).before a0 Z = true)
    (hty : parseFieldDescriptor d = some ty) (hn : narrow ty v = v) (hf : fits ty v = true) (hN : n0 ≤ a) (q : Nat) (hq : pc + 3 = q) (g : ∀ h', Wr h h' a (Jvm.RoadKit.slotOf Z O f d) v → Fld Z h' a O f d v → Ok W R n0 Q h' k n q Ls st) : Ok W R n0 Q h k n pc Ls (v :: .ref a :: st) := fun T locs X e N => by
  subst hq
  obtain ⟨T', h', X', e', Wr', st'⟩ := putF X C.1 C.2.1 C.2.2.2.2.1 (host := "") (Or.inl w) Via.refl e F E (L.imp id fun z => ⟨z.1, z.2.1, C.2.2.2.2.2.2.2.trans z.2.2⟩) wi hty hn hf (g := mkF W.m pc Ls.toArray (v :: .ref a :: st)) rfl rfl (hb C.2.2.1 hd)
  obtain ⟨s₂, o, S, r⟩ := g h' Wr' (F.same Wr') T' _ X' e' (Fr.snoc X' N hN)
  exact ⟨s₂, o, st' _ S, r⟩
theorem Ok.new (C : Cx W Z own nm bc maxL rt) {K : String} {i m : Nat} (w : (Jvm.Cond.classLink own i K).before a0 Z = true) (wi : (Jvm.Cond.instantiable K m).before a0 Z = true) (wz : (Jvm.Cond.initialized K).before a0 Z = true) (hd : decode bc pc = .ok (.new i, 3)) (hc : k + 1 ≤ R.cells) (hl : n + m ≤ R.slots) (q : Nat) (hq : pc + 3 = q)
    (g : ∀ h' a, a = h.size → Ext h h' → Exa Z h' a K → (∀ {O nm d : String} {ty : FieldType}, Laid Z a0 K O nm d → parseFieldDescriptor d = some ty → Fld Z h' a O nm d (defaultValue ty)) → Ok W R n0 Q h' (k + 1) (n + m) q Ls (.ref a :: st)) : Ok W R n0 Q h k n pc Ls st := fun T locs X e N => by
  subst hq
  obtain ⟨T', h', X', e', E', A', D', -, st'⟩ := newO X C.1 C.2.1 C.2.2.2.2.1 w wi wz e (g := mkF W.m pc Ls.toArray st) rfl (hb C.2.2.1 hd) hc hl
  obtain ⟨s₂, o, S, r⟩ := g h' _ rfl E' A' D' T' _ X' e' N
  exact ⟨s₂, o, st' _ S, r⟩
/-- the array at a holds vs -/
def AI (Z : State) (h : Heap) (a : Addr) (ty : FieldType) (vs : List Value) : Prop := ∃ c : Cell, Arr Z h a c ty ∧ c.slots = vs.toArray
theorem AI.lt {a : Addr} {ty : FieldType} {vs : List Value} (F : AI Z h a ty vs) : a < h.size := by obtain ⟨c, A, -⟩ := F; exact A.lt
theorem AI.ext {h' : Heap} {a : Addr} {ty : FieldType} {vs : List Value} (F : AI Z h a ty vs) (E : Ext h h') : AI Z h' a ty vs := by obtain ⟨c, A, r⟩ := F; exact ⟨c, A.ext E, r⟩
theorem AI.other {h' : Heap} {a b : Addr} {sl : Nat} {v : Value} {ty : FieldType} {vs : List Value} (F : AI Z h b ty vs) (W : Wr h h' a sl v) (q : b ≠ a) : AI Z h' b ty vs := by obtain ⟨c, A, r⟩ := F; exact ⟨c, A.other W q, r⟩
theorem AI.keep {h' : Heap} {a : Addr} {ws : List Addr} {ty : FieldType} {vs : List Value} (F : AI Z h a ty vs) (K : Keep h h' ws) (q : a ∉ ws) : AI Z h' a ty vs := by obtain ⟨c, A, r⟩ := F; exact ⟨c, ⟨K.2.1 a c A.1 q, A.2⟩, r⟩
theorem AI.same {h' : Heap} {a : Addr} {i : Nat} {v : Value} {ty : FieldType} {vs : List Value} (F : AI Z h a ty vs) (W : Wr h h' a i v) : AI Z h' a ty (vs.set i v) := by
  obtain ⟨c, A, r⟩ := F; exact ⟨_, A.same W, by simp [Cell.setSlot, r]⟩
theorem ne_AI {a b : Addr} {K : String} {kk : Nat} {ty : FieldType} {vs : List Value} (E : Exa Z h a K) (wi : (Jvm.Cond.instantiable K kk).before a0 Z = true) (F : AI Z h b ty vs) : a ≠ b := by obtain ⟨c, A, -⟩ := F; exact ne_arr E wi A
theorem own_nat {j : Int32} {i : Nat} (hj : j.toInt = i) : j.toNatClampNeg = i ∧ ¬ j < 0 := by
  have h2 : ¬ j < 0 := by rw [Int32.lt_iff_toInt_lt, z32]; omega
  have h3 := nat_of h2
  exact ⟨by omega, h2⟩
theorem own_in {c : Cell} {j : Int32} {i : Nat} {vs : List Value} (hj : j.toInt = i) (hc : c.slots = vs.toArray) (hi : i < vs.length) : ¬ (j < 0 ∨ c.slots.size ≤ j.toNatClampNeg) := by
  obtain ⟨h1, h2⟩ := own_nat hj
  rintro (h3 | h3)
  · exact h2 h3
  · rw [hc, h1] at h3; simp at h3; omega
theorem own_at {c : Cell} {j : Int32} {i : Nat} {vs : List Value} {v : Value} (hj : j.toInt = i) (hc : c.slots = vs.toArray) (hv : vs[i]? = some v) : c.slots[j.toNatClampNeg]? = some v := by
  rw [(own_nat hj).1, hc]; simpa using hv
theorem own_bd {i : Nat} {vs : List Value} {v : Value} (hv : vs[i]? = some v) : i < vs.length := (List.getElem?_eq_some_iff.mp hv).1
theorem Ok.newarray (C : Cx W Z own nm bc maxL rt) {aty : ArrayType} {ty : FieldType} {z : Int32} (w : (Jvm.Cond.arrayClass ty).before a0 Z = true) (hd : decode bc pc = .ok (.newarray aty, 2)) (hty : newarray.typeOf aty = ty) (i : Nat) (hz : z.toInt = i) (hb' : i * 8 ≤ 536870912) (cap : Nat) (hcap : i ≤ cap) (hb2 : cap * 8 ≤ 536870912) (hc : k + 1 ≤ R.cells) (hl : n + cap ≤ R.slots) (q : Nat) (hq : pc + 2 = q)
    (g : ∀ h' a, a = h.size → Ext h h' → AI Z h' a ty (List.replicate i (defaultValue ty)) → Ok W R n0 Q h' (k + 1) (n + cap) q Ls (.ref a :: st)) : Ok W R n0 Q h k n pc Ls (.int z :: st) := fun T locs X e N => by
  subst hq hty
  obtain ⟨z1, z2⟩ := own_nat hz
  obtain ⟨T', h', cA, X', e', E', A', st'⟩ := newP X C.1 C.2.1 w e (g := mkF W.m pc Ls.toArray (.int z :: st)) rfl (hb C.2.2.1 hd) rfl z2 (cap := cap) (by omega) hb2 hc hl
  obtain ⟨s₂, o, S, r⟩ := g h' _ rfl E' ⟨_, A', by simp [newA, z1]⟩ T' _ X' e' N
  exact ⟨s₂, o, st' _ S, r⟩
theorem Ok.arraylength (C : Cx W Z own nm bc maxL rt) {a : Addr} {ty : FieldType} {vs : List Value} (hd : decode bc pc = .ok (.arraylength, 1)) (F : AI Z h a ty vs) (z : Int32) (hz : vs.length.toInt32 = z) (q : Nat) (hq : pc + 1 = q) (g : Ok W R n0 Q h k n q Ls (.int z :: st)) : Ok W R n0 Q h k n pc Ls (.ref a :: st) := by
  subst hq hz
  obtain ⟨c, A, hc⟩ := F
  have hs : c.slots.size = vs.length := by rw [hc]; simp
  rw [← hs] at g
  exact g.back fun T locs X e t s => X.arraylength C.1 (by rw [e]; exact A.1) (State.isArrayOf_alike C.2.1.alike A.2.1) (g := mkF W.m pc Ls.toArray (.ref a :: st)) rfl rfl (hb C.2.2.1 hd) t s
theorem Ok.iaload (C : Cx W Z own nm bc maxL rt) {a : Addr} {j : Int32} {v : Value} {vs : List Value} (hd : decode bc pc = .ok (.iaload, 1)) (F : AI Z h a .int vs) (i : Nat) (hj : j.toInt = i) (hv : vs[i]? = some v) (q : Nat) (hq : pc + 1 = q) (g : Ok W R n0 Q h k n q Ls (v :: st)) : Ok W R n0 Q h k n pc Ls (.int j :: .ref a :: st) := by
  subst hq
  obtain ⟨c, A, hc⟩ := F
  exact g.back fun T locs X e t s => X.iaload C.1 (j := j) (v := v) (by rw [e]; exact A.1) (State.isArrayOf_alike C.2.1.alike A.2.1) A.2.2 (own_in hj hc (own_bd hv)) (own_at hj hc hv) (g := mkF W.m pc Ls.toArray (.int j :: .ref a :: st)) rfl rfl (hb C.2.2.1 hd) t s
theorem Ok.laload (C : Cx W Z own nm bc maxL rt) {a : Addr} {j : Int32} {v : Value} {vs : List Value} (hd : decode bc pc = .ok (.laload, 1)) (F : AI Z h a .long vs) (i : Nat) (hj : j.toInt = i) (hv : vs[i]? = some v) (q : Nat) (hq : pc + 1 = q) (g : Ok W R n0 Q h k n q Ls (v :: st)) : Ok W R n0 Q h k n pc Ls (.int j :: .ref a :: st) := by
  subst hq
  obtain ⟨c, A, hc⟩ := F
  exact g.back fun T locs X e t s => X.laload C.1 (j := j) (v := v) (by rw [e]; exact A.1) (State.isArrayOf_alike C.2.1.alike A.2.1) A.2.2 (own_in hj hc (own_bd hv)) (own_at hj hc hv) (g := mkF W.m pc Ls.toArray (.int j :: .ref a :: st)) rfl rfl (hb C.2.2.1 hd) t s
theorem Ok.baload (C : Cx W Z own nm bc maxL rt) {a : Addr} {j : Int32} {v : Value} {vs : List Value} (hd : decode bc pc = .ok (.baload, 1)) (F : AI Z h a .byte vs) (i : Nat) (hj : j.toInt = i) (hv : vs[i]? = some v) (q : Nat) (hq : pc + 1 = q) (g : Ok W R n0 Q h k n q Ls (v :: st)) : Ok W R n0 Q h k n pc Ls (.int j :: .ref a :: st) := by
  subst hq
  obtain ⟨c, A, hc⟩ := F
  exact g.back fun T locs X e t s => X.baloadBytes C.1 (j := j) (v := v) (by rw [e]; exact A.1) (State.isArrayOf_alike C.2.1.alike A.2.1) A.2.2 (own_in hj hc (own_bd hv)) (own_at hj hc hv) (g := mkF W.m pc Ls.toArray (.int j :: .ref a :: st)) rfl rfl (hb C.2.2.1 hd) t s
theorem Ok.zaload (C : Cx W Z own nm bc maxL rt) {a : Addr} {j : Int32} {v : Value} {vs : List Value} (hd : decode bc pc = .ok (.baload, 1)) (F : AI Z h a .boolean vs) (i : Nat) (hj : j.toInt = i) (hv : vs[i]? = some v) (q : Nat) (hq : pc + 1 = q) (g : Ok W R n0 Q h k n q Ls (v :: st)) : Ok W R n0 Q h k n pc Ls (.int j :: .ref a :: st) := by
  subst hq
  obtain ⟨c, A, hc⟩ := F
  exact g.back fun T locs X e t s => X.baloadBooleans C.1 (j := j) (v := v) (by rw [e]; exact A.1) (State.isArrayOf_alike C.2.1.alike A.2.1) A.2.2 (own_in hj hc (own_bd hv)) (own_at hj hc hv) (g := mkF W.m pc Ls.toArray (.int j :: .ref a :: st)) rfl rfl (hb C.2.2.1 hd) t s
theorem Ok.iastore (C : Cx W Z own nm bc maxL rt) {a : Addr} {j : Int32} {x : Int32} {vs : List Value} (hd : decode bc pc = .ok (.iastore, 1)) (F : AI Z h a .int vs) (i : Nat) (hj : j.toInt = i) (hi : i < vs.length) (hN : n0 ≤ a) (q : Nat) (hq : pc + 1 = q) (g : ∀ h', Wr h h' a i (.int x) → AI Z h' a .int (vs.set i (.int x)) → Ok W R n0 Q h' k n q Ls st) : Ok W R n0 Q h k n pc Ls (.int x :: .int j :: .ref a :: st) := fun T locs X e N => by
  subst hq
  obtain ⟨c, A, hc⟩ := F
  obtain ⟨T', h', X', e', Wr', st'⟩ := stI X C.1 C.2.1 e A (j := j) (x := x) (own_in hj hc hi) (g := mkF W.m pc Ls.toArray (.int x :: .int j :: .ref a :: st)) rfl rfl (hb C.2.2.1 hd)
  have N' := Fr.snoc X' N hN
  rw [(own_nat hj).1] at Wr'
  obtain ⟨s₂, o, S, r⟩ := g h' Wr' (AI.same ⟨c, A, hc⟩ Wr') T' _ X' e' N'
  exact ⟨s₂, o, st' _ S, r⟩
theorem Ok.lastore (C : Cx W Z own nm bc maxL rt) {a : Addr} {j : Int32} {x : Int64} {vs : List Value} (hd : decode bc pc = .ok (.lastore, 1)) (F : AI Z h a .long vs) (i : Nat) (hj : j.toInt = i) (hi : i < vs.length) (hN : n0 ≤ a) (q : Nat) (hq : pc + 1 = q) (g : ∀ h', Wr h h' a i (.long x) → AI Z h' a .long (vs.set i (.long x)) → Ok W R n0 Q h' k n q Ls st) : Ok W R n0 Q h k n pc Ls (.long x :: .int j :: .ref a :: st) := fun T locs X e N => by
  subst hq
  obtain ⟨c, A, hc⟩ := F
  obtain ⟨T', h', X', e', Wr', st'⟩ := stJ X C.1 C.2.1 e A (j := j) (x := x) (own_in hj hc hi) (g := mkF W.m pc Ls.toArray (.long x :: .int j :: .ref a :: st)) rfl rfl (hb C.2.2.1 hd)
  have N' := Fr.snoc X' N hN
  rw [(own_nat hj).1] at Wr'
  obtain ⟨s₂, o, S, r⟩ := g h' Wr' (AI.same ⟨c, A, hc⟩ Wr') T' _ X' e' N'
  exact ⟨s₂, o, st' _ S, r⟩
theorem Ok.bastore (C : Cx W Z own nm bc maxL rt) {a : Addr} {j : Int32} {x : Int32} {vs : List Value} (hd : decode bc pc = .ok (.bastore, 1)) (F : AI Z h a .byte vs) (i : Nat) (hj : j.toInt = i) (hi : i < vs.length) (hN : n0 ≤ a) (q : Nat) (hq : pc + 1 = q) (g : ∀ h', Wr h h' a i (.int (x.toInt8.toInt32)) → AI Z h' a .byte (vs.set i (.int (x.toInt8.toInt32))) → Ok W R n0 Q h' k n q Ls st) : Ok W R n0 Q h k n pc Ls (.int x :: .int j :: .ref a :: st) := fun T locs X e N => by
  subst hq
  obtain ⟨c, A, hc⟩ := F
  obtain ⟨T', h', X', e', Wr', st'⟩ := stB X C.1 C.2.1 e A (j := j) (x := x) (own_in hj hc hi) (g := mkF W.m pc Ls.toArray (.int x :: .int j :: .ref a :: st)) rfl rfl (hb C.2.2.1 hd)
  have N' := Fr.snoc X' N hN
  rw [(own_nat hj).1] at Wr'
  obtain ⟨s₂, o, S, r⟩ := g h' Wr' (AI.same ⟨c, A, hc⟩ Wr') T' _ X' e' N'
  exact ⟨s₂, o, st' _ S, r⟩
theorem Ok.zastore (C : Cx W Z own nm bc maxL rt) {a : Addr} {j : Int32} {x : Int32} {vs : List Value} (hd : decode bc pc = .ok (.bastore, 1)) (F : AI Z h a .boolean vs) (i : Nat) (hj : j.toInt = i) (hi : i < vs.length) (hN : n0 ≤ a) (q : Nat) (hq : pc + 1 = q) (g : ∀ h', Wr h h' a i (.int (x &&& 1)) → AI Z h' a .boolean (vs.set i (.int (x &&& 1))) → Ok W R n0 Q h' k n q Ls st) : Ok W R n0 Q h k n pc Ls (.int x :: .int j :: .ref a :: st) := fun T locs X e N => by
  subst hq
  obtain ⟨c, A, hc⟩ := F
  obtain ⟨T', h', X', e', Wr', st'⟩ := stZ X C.1 C.2.1 e A (j := j) (x := x) (own_in hj hc hi) (g := mkF W.m pc Ls.toArray (.int x :: .int j :: .ref a :: st)) rfl rfl (hb C.2.2.1 hd)
  have N' := Fr.snoc X' N hN
  rw [(own_nat hj).1] at Wr'
  obtain ⟨s₂, o, S, r⟩ := g h' Wr' (AI.same ⟨c, A, hc⟩ Wr') T' _ X' e' N'
  exact ⟨s₂, o, st' _ S, r⟩
/-! the end -/
theorem Ok.fin {T : State} {locs : List Loc} {v : Option Value} (C : Cx W Z own nm bc maxL rt) (hv : rt = none → v = none) (X : Stand W.p W.l W.e R W.s W.m W.args W.below W.meth W.c T locs k n) (e : T.heap = h) (N : Fr n0 locs) (hk : k ≤ R.cells) (hn : n ≤ R.slots) (hQ : Q v h) {f : State}
    (hst : ∀ fs, (∀ (f : JFrame) (acts : List Action), f.method = W.m → f.locked = none → f.entered = [] → (doReturn W.e (T.setTop f) acts v).1 = T.setFrames fs) → Steps W.p.tables W.e W.below f (T.setFrames fs)) :
    ∃ s₂ o, Steps W.p.tables W.e W.below f s₂ ∧ s₂.status = .running ∧ Ended s₂ W.below o ∧ ∃ v L, o = .returned v ∧ (Q v s₂.heap ∧ Fr n0 L) ∧ FrameEnd W.s o s₂ L R.cells R.slots := by
  obtain ⟨fs, hr, hrun, hended, hW, hsame⟩ := X.leave (v := v) (fun z => hv (C.2.2.2.2.2.1.symm.trans z)) C.2.2.2.2.2.2.1
  have hQ' : Q v (T.setFrames fs).heap := by show Q v T.heap; rw [e]; exact hQ
  exact ⟨_, _, hst fs hr, hrun, hended, _, _, rfl, ⟨hQ', N⟩, ⟨_, rfl⟩, hW, hsame.mono hk hn⟩
theorem Ok.ireturn (C : Cx W Z own nm bc maxL (some .int)) {x : Int32} (hd : decode bc pc = .ok (.ireturn, 1)) (hk : k ≤ R.cells) (hn : n ≤ R.slots) (hQ : Q (some (.int x)) h) : Ok W R n0 Q h k n pc Ls (.int x :: st) := fun T locs X e N =>
  Ok.fin C (fun z => by cases z) X e N hk hn hQ fun fs hr => retOut X C.1 C.2.2.2.2.2.1 rfl (Or.inl ⟨rfl, Or.inl rfl, _, rfl⟩) (hb C.2.2.1 hd) hr
theorem Ok.zreturn (C : Cx W Z own nm bc maxL (some .boolean)) {x : Int32} (hd : decode bc pc = .ok (.ireturn, 1)) (hk : k ≤ R.cells) (hn : n ≤ R.slots) (hQ : Q (some (.int (x &&& 1))) h) : Ok W R n0 Q h k n pc Ls (.int x :: st) := fun T locs X e N =>
  Ok.fin C (fun z => by cases z) X e N hk hn hQ fun fs hr => retN X C.1 (t := .boolean) C.2.2.2.2.2.1 (Or.inl rfl) (hb C.2.2.1 hd) hr
theorem Ok.lreturn (C : Cx W Z own nm bc maxL (some .long)) {x : Int64} (hd : decode bc pc = .ok (.lreturn, 1)) (hk : k ≤ R.cells) (hn : n ≤ R.slots) (hQ : Q (some (.long x)) h) : Ok W R n0 Q h k n pc Ls (.long x :: st) := fun T locs X e N =>
  Ok.fin C (fun z => by cases z) X e N hk hn hQ fun fs hr => retOut X C.1 C.2.2.2.2.2.1 rfl (Or.inr (Or.inl ⟨rfl, rfl, _, rfl⟩)) (hb C.2.2.1 hd) hr
theorem Ok.vreturn (C : Cx W Z own nm bc maxL none) (hd : decode bc pc = .ok (.return_, 1)) (hk : k ≤ R.cells) (hn : n ≤ R.slots) (hQ : Q none h) : Ok W R n0 Q h k n pc Ls [] := fun T locs X e N =>
  Ok.fin C (fun _ => rfl) X e N hk hn hQ fun fs hr => X.returnOut C.1 C.2.2.2.2.2.1 (hb C.2.2.1 hd) hr
/-! calls -/
/-- the method y, called with as' over the heap h, returns with Q -/
def Does (l : Launch) (Z : State) (y : MethodName) (bytes : ByteArray) (mL : Nat) (rt : Option FieldType) (rm : Room) (as' : Array Value) (h : Heap) (n0 : Nat) (Q : Option Value → Heap → Prop) : Prop :=
  MetFree l y (head1 [Jvm.Cond.code y bytes mL rt] rm) (fun a U => a = as' ∧ Z.Warmed39 U.vm ∧ U.heap = h) (fun _ _ _ _ _ => True) (fun _ U o U' => ∃ v L, o = .returned v ∧ (Q v U'.heap ∧ Fr n0 L) ∧ FrameEnd U o U' L rm.cells rm.slots)
def DoesW (l : Launch) (Z : State) (y : MethodName) (bytes : ByteArray) (mL : Nat) (rt : Option FieldType) (rm : Room) (ws : List Jvm.Cond) (as' : Array Value) (h : Heap) (n0 : Nat) (Q : Option Value → Heap → Prop) : Prop :=
  MetFree l y (head1 (Jvm.Cond.code y bytes mL rt :: ws) rm) (fun a U => a = as' ∧ Z.Warmed39 U.vm ∧ U.heap = h) (fun _ _ _ _ _ => True) (fun _ U o U' => ∃ v L, o = .returned v ∧ (Q v U'.heap ∧ Fr n0 L) ∧ FrameEnd U o U' L rm.cells rm.slots)
theorem DoesW.of_body {l : Launch} {y : MethodName} {bytes : ByteArray} {mL : Nat} {rm : Room} {ws : List Jvm.Cond} {as' : Array Value} (hpl : plainFor y = true) (Ls0 : List Slot) (ef : ∀ m, entryFrame m as' mL = mkF m 0 Ls0.toArray [])
    (g : ∀ W : Wd, W.l = l → Cx W Z y.cls y.name bytes mL rt → Ok W rm n0 Q h 0 0 0 Ls0 []) : DoesW l Z y bytes mL rt rm ws as' h n0 Q := by
  unfold DoesW
  refine MetFree.of_bodySF hpl hisR ?_
  intro p e s m args below meth c s₁ Bd hml0 hP hK
  obtain ⟨rfl, hZ, hh⟩ := hP
  have X0 : Stand p l e rm s m args below meth c s₁ [] 0 0 := Stand.of_body Bd
  have e0 : s₁.heap = h := by rw [← hh, Bd.state]; rfl
  obtain ⟨s₂, o, S, r⟩ := g (p, l, e, s, m, args, below, meth, c) rfl ⟨Bd.exec, hZ, Bd.bytes, hml0, findClass_of_methodNamed Bd.named, Bd.returns, Bd.notSynchronized, (name_of_methodNamed Bd.named Bd.method).1⟩ s₁ [] X0 e0 (Fr.nil n0)
  exact ⟨s₂, o, castTop (ef m) S, r⟩
theorem Does.of_body {l : Launch} {y : MethodName} {bytes : ByteArray} {mL : Nat} {rm : Room} {as' : Array Value} (hpl : plainFor y = true) (Ls0 : List Slot) (ef : ∀ m, entryFrame m as' mL = mkF m 0 Ls0.toArray [])
    (g : ∀ W : Wd, W.l = l → Cx W Z y.cls y.name bytes mL rt → Ok W rm n0 Q h 0 0 0 Ls0 []) : Does l Z y bytes mL rt rm as' h n0 Q := DoesW.of_body (ws := []) hpl Ls0 ef g
theorem own_after {v : Option Value} {q : Nat} {rest : List Value} {rm : Room} {T : State} {locs L : List Loc} {h' : Heap} (g : Ok W R n0 Q h' (k + rm.cells) (n + rm.slots) q Ls (v.toList ++ rest)) (N : Fr n0 locs) (N' : Fr n0 L) (X : Stand W.p W.l W.e R W.s W.m W.args W.below W.meth W.c T (locs ++ L) (k + rm.cells) (n + rm.slots)) (e : T.heap = h') :
    ∃ s₂ o, Steps W.p.tables W.e W.below (T.setTop (mkF W.m q Ls.toArray (v.toList ++ rest))) s₂ ∧ s₂.status = .running ∧ Ended s₂ W.below o ∧ ∃ v L, o = .returned v ∧ (Q v s₂.heap ∧ Fr n0 L) ∧ FrameEnd W.s o s₂ L R.cells R.slots := g T _ X e (N.app N')
theorem Ok.callStatic (C : Cx W Z own nm bc maxL rt) {i : Nat} {y : MethodName} {bytes : ByteArray} {mL : Nat} {rt' : Option FieldType} {rm : Room} {ps : List FieldType} {Q' : Option Value → Heap → Prop} (argsL rest : List Value) (hs : st = argsL.reverse ++ rest)
    (w1 : (Jvm.Cond.methodLink own i y).before a0 Z = true) (w2 : (Jvm.Cond.static y).before a0 Z = true) (w3 : (Jvm.Cond.initialized y.cls).before a0 Z = true) (w4 : (Jvm.Cond.code y bytes mL rt').before a0 Z = true) (hd : decode bc pc = .ok (.invokestatic i, 3))
    (hm : y.cls ≠ "java/lang/invoke/MethodHandle" ∧ y.cls ≠ "java/lang/invoke/VarHandle") (pd : parseMethodDescriptor y.desc = some ⟨ps, rt'⟩) (hlen : argsL.length = ps.length) (hsz : Ls.length = maxL)
    (D : Does W.l Z y bytes mL rt' rm argsL.toArray h n0 Q') (hf : rm.frames + 1 ≤ R.frames) (wt : Nat) (hwt : (rest.map fun v => v.category).sum = wt) (hl : wt + (mL + 11) + rm.locals ≤ R.locals) (hc : k + rm.cells ≤ R.cells) (hsl : n + rm.slots ≤ R.slots) (q : Nat) (hq : pc + 3 = q)
    (g : ∀ v h', Q' v h' → Ok W R n0 Q h' (k + rm.cells) (n + rm.slots) q Ls (v.toList ++ rest)) : Ok W R n0 Q h k n pc Ls st := fun T locs X e N => by
  subst hq hs
  obtain ⟨v, vm1, ⟨T', L', k', n'⟩, -, X', ⟨Lc, hQ, l1, y1, z1⟩, st'⟩ := Jvm.LawKit.callS X C.1 (y := y) C.2.2.2.2.1 (mvT C.2.1 w1) (mvT C.2.1 w2) (mvT C.2.1 w3) (mvT C.2.1 w4) hm (backOf (W := wt) (R := R) (Q := fun v h L => Q' v h ∧ Fr n0 L) D C.2.1 w4 w3 hf hl) (g := mkF W.m pc Ls.toArray (argsL.reverse ++ rest)) rfl (by rw [C.2.2.2.1, ← hsz]; simp) (argsL := argsL) (rest := rest) (lenOf pd hlen) rfl (by show 2 * 0 + _ ≤ _; omega) (hb C.2.2.1 hd) (fun _ _ => ⟨rfl, e, hc, hsl⟩)
  dsimp only [Pt.U, Pt.locs, Pt.cells, Pt.slots] at X' l1 y1 z1 st' hQ
  subst l1 y1 z1
  obtain ⟨s₂, o, S, r⟩ := own_after (g v _ hQ.1) N hQ.2 X' rfl
  exact ⟨s₂, o, st' _ S, r⟩
theorem Ok.callInit (C : Cx W Z own nm bc maxL rt) {i : Nat} {y : MethodName} {bytes : ByteArray} {mL : Nat} {rm : Room} {ps : List FieldType} {Q' : Option Value → Heap → Prop} {a : Addr} (argsL rest : List Value) (hs : st = argsL.reverse ++ .ref a :: rest) (hy1 : y.name = "<init>")
    (w1 : (Jvm.Cond.methodLink own i y).before a0 Z = true) (w2 : (Jvm.Cond.instanceMethod y).before a0 Z = true) (w3 : (Jvm.Cond.initialized y.cls).before a0 Z = true) (w4 : (Jvm.Cond.code y bytes mL none).before a0 Z = true) (hd : decode bc pc = .ok (.invokespecial i, 3))
    (hm : y.cls ≠ "java/lang/invoke/MethodHandle" ∧ y.cls ≠ "java/lang/invoke/VarHandle") (pd : parseMethodDescriptor y.desc = some ⟨ps, none⟩) (hlen : argsL.length = ps.length) (hsz : Ls.length = maxL)
    (D : Does W.l Z y bytes mL none rm (.ref a :: argsL).toArray h n0 Q') (hf : rm.frames + 1 ≤ R.frames) (wt : Nat) (hwt : (rest.map fun v => v.category).sum = wt) (hl : wt + (mL + 11) + rm.locals ≤ R.locals) (hc : k + rm.cells ≤ R.cells) (hsl : n + rm.slots ≤ R.slots) (q : Nat) (hq : pc + 3 = q)
    (g : ∀ v h', Q' v h' → Ok W R n0 Q h' (k + rm.cells) (n + rm.slots) q Ls (v.toList ++ rest)) : Ok W R n0 Q h k n pc Ls st := fun T locs X e N => by
  subst hq hs
  obtain ⟨v, vm1, ⟨T', L', k', n'⟩, -, X', ⟨Lc, hQ, l1, y1, z1⟩, st'⟩ := X.specialBack C.1 (y := y) hy1 C.2.2.2.2.1 (mvT C.2.1 w1) (mvT C.2.1 w2) (mvT C.2.1 w4) hm (backOf (W := wt) (R := R) (Q := fun v h L => Q' v h ∧ Fr n0 L) D C.2.1 w4 w3 hf hl) (g := mkF W.m pc Ls.toArray (argsL.reverse ++ .ref a :: rest)) rfl (by rw [C.2.2.2.1, ← hsz]; simp) (Steps.refl _) (a := a) (argsL := argsL) (rest := rest) (lenOf pd hlen) rfl (by show 2 * 0 + _ ≤ _; omega) (hb C.2.2.1 hd) (fun _ _ => ⟨rfl, e, hc, hsl⟩)
  dsimp only [Pt.U, Pt.locs, Pt.cells, Pt.slots] at X' l1 y1 z1 st' hQ
  subst l1 y1 z1
  obtain ⟨s₂, o, S, r⟩ := own_after (g v _ hQ.1) N hQ.2 X' rfl
  exact ⟨s₂, o, st'.trans S, r⟩
theorem Ok.callVirtual (C : Cx W Z own nm bc maxL rt) {i : Nat} {y : MethodName} {bytes : ByteArray} {mL : Nat} {rt' : Option FieldType} {rm : Room} {ps : List FieldType} {Q' : Option Value → Heap → Prop} {a : Addr} (argsL rest : List Value) (hs : st = argsL.reverse ++ .ref a :: rest)
    (w1 : (Jvm.Cond.methodLink own i y).before a0 Z = true) (w2 : (Jvm.Cond.declares y).before a0 Z = true) (w5 : (Jvm.Cond.selects y.cls y y).before a0 Z = true) (w6 : (Jvm.Cond.instanceMethod y).before a0 Z = true) (w3 : (Jvm.Cond.initialized y.cls).before a0 Z = true) (w4 : (Jvm.Cond.code y bytes mL rt').before a0 Z = true) (hd : decode bc pc = .ok (.invokevirtual i, 3))
    (hm : y.cls ≠ "java/lang/invoke/MethodHandle" ∧ y.cls ≠ "java/lang/invoke/VarHandle") (pd : parseMethodDescriptor y.desc = some ⟨ps, rt'⟩) (hlen : argsL.length = ps.length) (hsz : Ls.length = maxL) (E : Exa Z h a y.cls)
    (D : Does W.l Z y bytes mL rt' rm (.ref a :: argsL).toArray h n0 Q') (hf : rm.frames + 1 ≤ R.frames) (wt : Nat) (hwt : (rest.map fun v => v.category).sum = wt) (hl : wt + (mL + 11) + rm.locals ≤ R.locals) (hc : k + rm.cells ≤ R.cells) (hsl : n + rm.slots ≤ R.slots) (q : Nat) (hq : pc + 3 = q)
    (g : ∀ v h', Q' v h' → Ok W R n0 Q h' (k + rm.cells) (n + rm.slots) q Ls (v.toList ++ rest)) : Ok W R n0 Q h k n pc Ls st := fun T locs X e N => by
  subst hq hs
  obtain ⟨cq, kq, qa, qb, qc⟩ := isOf (T := T) C.2.1 e E
  obtain ⟨v, vm1, ⟨T', L', k', n'⟩, -, X', ⟨Lc, hQ, l1, y1, z1⟩, st'⟩ := X.virtualBack C.1 (y := y) (z := y) C.2.2.2.2.1 (mvT C.2.1 w1) (mvT C.2.1 w2) (notFace_of_selects (args := #[]) (mvT C.2.1 w5)) (mvT C.2.1 w5) (mvT C.2.1 w6) hm (backOf (W := wt) (R := R) (Q := fun v h L => Q' v h ∧ Fr n0 L) D C.2.1 w4 w3 hf hl) qa qc (g := mkF W.m pc Ls.toArray (argsL.reverse ++ .ref a :: rest)) rfl (by rw [C.2.2.2.1, ← hsz]; simp) (Steps.refl _) (argsL := argsL) (rest := rest) (lenOf pd hlen) rfl (by show 2 * 0 + _ ≤ _; omega) (hb C.2.2.1 hd) (fun _ _ => ⟨rfl, e, hc, hsl⟩)
  dsimp only [Pt.U, Pt.locs, Pt.cells, Pt.slots] at X' l1 y1 z1 st' hQ
  subst l1 y1 z1
  obtain ⟨s₂, o, S, r⟩ := own_after (g v _ hQ.1) N hQ.2 X' rfl
  exact ⟨s₂, o, st'.trans S, r⟩
theorem own_selects {a : Array Value} {s : State} {y0 y : MethodName} (hs : (Jvm.Cond.selects y0.cls y0 y0).before a s = true) (hi : (Jvm.Cond.instanceMethod y).before a s = true) (hp : (Jvm.Cond.privateMethod y).before a s = true) (hc : y.cls = y0.cls) (hm : y.cls ≠ "java/lang/invoke/MethodHandle" ∧ y.cls ≠ "java/lang/invoke/VarHandle") : (Jvm.Cond.selects y.cls y y).before a s = true := by
  obtain ⟨c, r, m, h1, h2, h3, h4, kk, h5, h6⟩ := Cond.selects_spec hs
  obtain ⟨mk, methM, hn, hmm, -, -⟩ := Cond.instanceMethod_spec hi
  have e1 : s.vm.findClass y0.cls = some m.cls := findClass_of_methodNamed h3
  have e2 : s.vm.findClass y.cls = some mk.cls := findClass_of_methodNamed hn
  have e3 : mk.cls = m.cls := by rw [hc, e1] at e2; exact (Option.some.inj e2).symm
  have hf := State.methodFound?_of_named hn hm
  have hsel : selectMethod {} s.vm mk.cls mk = .method mk := selectMethod_private hmm (Cond.privateMethod_at hp mk methM hn hmm)
  have hk : s.vm.classes[mk.cls]? = some kk := by rw [e3]; exact h5
  simp [Cond.before, Cond.holds, Cond.value, e2, hf, hn, hsel, hk, h6]
theorem Ok.callPrivate (C : Cx W Z own nm bc maxL rt) {i : Nat} {y y0 : MethodName} {bytes : ByteArray} {mL : Nat} {rt' : Option FieldType} {rm : Room} {ps : List FieldType} {Q' : Option Value → Heap → Prop} {a : Addr} (argsL rest : List Value) (hs : st = argsL.reverse ++ .ref a :: rest)
    (w1 : (Jvm.Cond.methodLink own i y).before a0 Z = true) (w6 : (Jvm.Cond.instanceMethod y).before a0 Z = true) (w7 : (Jvm.Cond.privateMethod y).before a0 Z = true) (w5 : (Jvm.Cond.selects y0.cls y0 y0).before a0 Z = true) (hcc : y.cls = y0.cls) (w3 : (Jvm.Cond.initialized y.cls).before a0 Z = true) (w4 : (Jvm.Cond.code y bytes mL rt').before a0 Z = true) (hd : decode bc pc = .ok (.invokevirtual i, 3))
    (hm : y.cls ≠ "java/lang/invoke/MethodHandle" ∧ y.cls ≠ "java/lang/invoke/VarHandle") (pd : parseMethodDescriptor y.desc = some ⟨ps, rt'⟩) (hlen : argsL.length = ps.length) (hsz : Ls.length = maxL) (E : Exa Z h a y.cls)
    (D : Does W.l Z y bytes mL rt' rm (.ref a :: argsL).toArray h n0 Q') (hf : rm.frames + 1 ≤ R.frames) (wt : Nat) (hwt : (rest.map fun v => v.category).sum = wt) (hl : wt + (mL + 11) + rm.locals ≤ R.locals) (hc : k + rm.cells ≤ R.cells) (hsl : n + rm.slots ≤ R.slots) (q : Nat) (hq : pc + 3 = q)
    (g : ∀ v h', Q' v h' → Ok W R n0 Q h' (k + rm.cells) (n + rm.slots) q Ls (v.toList ++ rest)) : Ok W R n0 Q h k n pc Ls st := fun T locs X e N => by
  subst hq hs
  obtain ⟨cq, q1, q2⟩ := E.cell
  obtain ⟨v, vm1, ⟨T', L', k', n'⟩, -, X', ⟨Lc, hQ, l1, y1, z1⟩, st'⟩ := X.privateBack C.1 (y := y) C.2.2.2.2.1 (mvT C.2.1 w1) (mvT C.2.1 w6) (mvT C.2.1 (own_selects w5 w6 w7 hcc hm)) (Cond.privateMethod_at (mvP C.2.1 w7 (args := #[]))) (mvT C.2.1 w4) hm (backOf (W := wt) (R := R) (Q := fun v h L => Q' v h ∧ Fr n0 L) D C.2.1 w4 w3 hf hl) (g := mkF W.m pc Ls.toArray (argsL.reverse ++ .ref a :: rest)) rfl (by rw [C.2.2.2.1, ← hsz]; simp) (Steps.refl _) (a := a) (by rw [e]; exact q1) q2 (argsL := argsL) (rest := rest) (lenOf pd hlen) rfl (by show 2 * 0 + _ ≤ _; omega) (hb C.2.2.1 hd) (fun _ _ => ⟨rfl, e, hc, hsl⟩)
  dsimp only [Pt.U, Pt.locs, Pt.cells, Pt.slots] at X' l1 y1 z1 st' hQ
  subst l1 y1 z1
  obtain ⟨s₂, o, S, r⟩ := own_after (g v _ hQ.1) N hQ.2 X' rfl
  exact ⟨s₂, o, st'.trans S, r⟩
/-! numbers -/
theorem own_add {t x y : Int32} (e : t = x + y) (h1 : -2147483648 ≤ x.toInt + y.toInt) (h2 : x.toInt + y.toInt < 2147483648) : t.toInt = x.toInt + y.toInt := by
  have := c_iadd x y; have := rng32 (x + y); subst e; omega
theorem own_sub {t x y : Int32} (e : t = x - y) (h1 : -2147483648 ≤ x.toInt - y.toInt) (h2 : x.toInt - y.toInt < 2147483648) : t.toInt = x.toInt - y.toInt := by
  have := c_isub x y; have := rng32 (x - y); subst e; omega
theorem own_lsub {t x y : Int64} (e : t = x - y) (h1 : -9223372036854775808 ≤ x.toInt - y.toInt) (h2 : x.toInt - y.toInt < 9223372036854775808) : t.toInt = x.toInt - y.toInt := by
  have := c_lsub x y; have := rng64 (x - y); subst e; omega
theorem own_ladd {t x y : Int64} (e : t = x + y) (h1 : -9223372036854775808 ≤ x.toInt + y.toInt) (h2 : x.toInt + y.toInt < 9223372036854775808) : t.toInt = x.toInt + y.toInt := by
  have := c_ladd x y; have := rng64 (x + y); subst e; omega
theorem own_one : (1 &&& 1 : Int32) = 1 := rfl
theorem own_zero : (0 &&& 1 : Int32) = 0 := rfl
end Own
section OwnInit
variable {W : Wd} {R : Room} {n0 : Nat} {Q : Option Value → Heap → Prop} {h : Heap} {k n pc : Nat} {Ls : List Slot} {st : List Value} {Z : State} {own nm : String} {bc : ByteArray} {maxL : Nat} {rt : Option FieldType} {a0 : Array Value}
theorem Ok.initObj (C : Cx W Z own nm bc maxL rt) {i : Nat} {a : Addr} (w1 : (Jvm.Cond.methodLink own i Lib.objectInit).before a0 Z = true) (w2 : (Jvm.Cond.instanceMethod Lib.objectInit).before a0 Z = true) (w3 : (Jvm.Cond.code Lib.objectInit object_method_1_code 1 none).before a0 Z = true) (hd : decode bc pc = .ok (.invokespecial i, 3)) (hsz : Ls.length = maxL)
    (hf : 1 ≤ R.frames) (wt : Nat) (hwt : (st.map fun v => v.category).sum = wt) (hl : wt + 12 ≤ R.locals) (q : Nat) (hq : pc + 3 = q) (g : Ok W R n0 Q h k n q Ls st) : Ok W R n0 Q h k n pc Ls (.ref a :: st) := by
  subst hq
  exact g.move fun T locs X e => initO X C.1 C.2.1 C.2.2.2.2.1 w1 w2 w3 e (g := mkF W.m pc Ls.toArray (.ref a :: st)) rfl (by rw [C.2.2.2.1, ← hsz]; simp) rfl (hb C.2.2.1 hd) hf (W := wt) (by show 2 * 0 + _ ≤ _; omega) hl
end OwnInit
theorem own_w {Z : State} {a0 : Array Value} (hw : ∀ d ∈ tables_1, d.before a0 Z = true) (i : Nat) {d : Jvm.Cond} (e : tables_1[i]? = some d) : d.before a0 Z = true := hw d (List.mem_of_getElem? e)
/-- the queue at q over its heap a, places b, gains g -/
def GQ (Z : State) (h : Heap) (q a b g : Addr) (H P : List Int32) (gs : List Int64) (sz : Int32) : Prop :=
  Exa Z h q "tracecut/partition/GainQueue" ∧ Fld Z h q "tracecut/partition/GainQueue" "heap" "[I" (.ref a) ∧ Fld Z h q "tracecut/partition/GainQueue" "places" "[I" (.ref b) ∧ Fld Z h q "tracecut/partition/GainQueue" "gains" "[J" (.ref g) ∧ Fld Z h q "tracecut/partition/GainQueue" "size" "I" (.int sz) ∧ AI Z h a .int (H.map Value.int) ∧ AI Z h b .int (P.map Value.int) ∧ AI Z h g .long (gs.map Value.long) ∧ H.length = 4 ∧ P.length = 4 ∧ gs.length = 4
/-- S places of the heap are taken, by nodes below T; a node with a place is among them -/
def own_I (T : Nat) (H P : List Int32) (S : Nat) : Prop :=
  S ≤ T ∧ T ≤ 4 ∧ (∀ i, i < S → ∃ x v, H[i]? = some x ∧ x.toInt = ((v : Nat) : Int) ∧ v < T) ∧ (∀ (v : Nat) (x : Int32), P[v]? = some x → 0 ≤ x.toInt → ∃ i y, i < S ∧ H[i]? = some y ∧ y.toInt = ((v : Nat) : Int))
theorem own_mp {L : List Int32} {i : Nat} {x : Int32} (h : L[i]? = some x) : (L.map Value.int)[i]? = some (.int x) := by rw [List.getElem?_map, h]; rfl
theorem own_ml {L : List Int64} {i : Nat} {x : Int64} (h : L[i]? = some x) : (L.map Value.long)[i]? = some (.long x) := by rw [List.getElem?_map, h]; rfl
theorem own_some {α : Type} {L : List α} {i : Nat} (h : i < L.length) : ∃ x, L[i]? = some x := ⟨_, List.getElem?_eq_getElem h⟩
theorem own_mono {T S : Nat} {H P : List Int32} (h : own_I T H P S) (hT : T < 4) : own_I (T + 1) H P S := by
  obtain ⟨h1, h2, h3, h4⟩ := h
  exact ⟨by omega, by omega, fun i hi => by obtain ⟨x, v, a, b, d⟩ := h3 i hi; exact ⟨x, v, a, b, by omega⟩, h4⟩
theorem own_neg {T S : Nat} {H P : List Int32} {x : Int32} (h : own_I T H P S) (hx : P[T]? = some x) : x.toInt < 0 := by
  obtain ⟨h1, h2, h3, h4⟩ := h
  rcases Int.lt_or_le x.toInt 0 with q | q
  · exact q
  · obtain ⟨i, y, a, b, d⟩ := h4 T x hx q
    obtain ⟨x', v, a', b', d'⟩ := h3 i a
    cases a'.symm.trans b
    omega
theorem own_put {T S : Nat} {H P : List Int32} {n s : Int32} (h : own_I T H P S) (hT : T < 4) (hH : H.length = 4) (hP : P.length = 4) (hn : n.toInt = (T : Int)) : own_I (T + 1) (H.set S n) (P.set T s) (S + 1) := by
  obtain ⟨h1, h2, h3, h4⟩ := h
  refine ⟨by omega, by omega, fun i hi => ?_, fun v x hx hx0 => ?_⟩
  · by_cases e : i = S
    · subst e; exact ⟨n, T, List.getElem?_set_self (by omega), hn, by omega⟩
    · obtain ⟨x, v, a, b, d⟩ := h3 i (by omega)
      exact ⟨x, v, by rw [List.getElem?_set_ne (fun q => e q.symm)]; exact a, b, by omega⟩
  · by_cases e : v = T
    · subst e; exact ⟨S, n, by omega, List.getElem?_set_self (by omega), hn⟩
    · rw [List.getElem?_set_ne (fun q => e q.symm)] at hx
      obtain ⟨i, y, a, b, d⟩ := h4 v x hx hx0
      exact ⟨i, y, by omega, by rw [List.getElem?_set_ne (by omega)]; exact b, d⟩
theorem own_fin {T S p nv : Nat} {H P : List Int32} {nd pl : Int32} (h : own_I T (H.set p nd) P S) (hp : p < S) (hH : H.length = 4) (hn : nd.toInt = (nv : Int)) : own_I T (H.set p nd) (P.set nv pl) S := by
  obtain ⟨h1, h2, h3, h4⟩ := h
  refine ⟨h1, h2, h3, fun v x hx hx0 => ?_⟩
  by_cases e : v = nv
  · subst e; exact ⟨p, nd, hp, List.getElem?_set_self (by omega), hn⟩
  · rw [List.getElem?_set_ne (fun q => e q.symm)] at hx
    exact h4 v x hx hx0
theorem own_swap {T S p par yv : Nat} {H P : List Int32} {nd pl y : Int32} (h : own_I T (H.set p nd) P S) (hp : p < S) (hpar : par < p) (hH : H.length = 4) (hy : H[par]? = some y) (hyv : y.toInt = (yv : Int)) : own_I T ((H.set p y).set par nd) (P.set yv pl) S := by
  obtain ⟨h1, h2, h3, h4⟩ := h
  have np : p ≠ par := by omega
  have g1 : ((H.set p y).set par nd)[p]? = some y := by rw [List.getElem?_set_ne (fun q => np q.symm)]; exact List.getElem?_set_self (by omega)
  have g2 : ((H.set p y).set par nd)[par]? = some nd := List.getElem?_set_self (by simp; omega)
  have g3 : ∀ i, i ≠ p → i ≠ par → ((H.set p y).set par nd)[i]? = (H.set p nd)[i]? := fun i q1 q2 => by
    rw [List.getElem?_set_ne (fun q => q2 q.symm), List.getElem?_set_ne (fun q => q1 q.symm), List.getElem?_set_ne (fun q => q1 q.symm)]
  have k1 : (H.set p nd)[p]? = some nd := List.getElem?_set_self (by omega)
  have k2 : (H.set p nd)[par]? = some y := by rw [List.getElem?_set_ne np]; exact hy
  refine ⟨h1, h2, fun i hi => ?_, fun v x hx hx0 => ?_⟩
  · by_cases e1 : i = p
    · subst e1
      obtain ⟨x, v, a, b, d⟩ := h3 par (by omega)
      cases a.symm.trans k2
      exact ⟨y, v, g1, b, d⟩
    · by_cases e2 : i = par
      · subst e2
        obtain ⟨x, v, a, b, d⟩ := h3 p (by omega)
        cases a.symm.trans k1
        exact ⟨nd, v, g2, b, d⟩
      · rw [g3 i e1 e2]; exact h3 i hi
  · by_cases e : v = yv
    · subst e; exact ⟨p, y, hp, g1, hyv⟩
    · rw [List.getElem?_set_ne (fun q => e q.symm)] at hx
      obtain ⟨i, z, a, b, d⟩ := h4 v x hx hx0
      by_cases e1 : i = p
      · subst e1; cases b.symm.trans k1; exact ⟨par, nd, by omega, g2, d⟩
      · by_cases e2 : i = par
        · subst e2; cases b.symm.trans k2; exact ⟨p, y, hp, g1, d⟩
        · exact ⟨i, z, a, by rw [g3 i e1 e2]; exact b, d⟩
theorem own_setself {H : List Int32} {p : Nat} {nd : Int32} (h : H[p]? = some nd) : H.set p nd = H := by
  apply List.ext_getElem?
  intro i
  by_cases e : i = p
  · subst e; rw [List.getElem?_set_self (List.getElem?_eq_some_iff.mp h).1, h]
  · rw [List.getElem?_set_ne (fun q => e q.symm)]
theorem own_clr {S i yv : Nat} {H P : List Int32} {y m : Int32} (h : ∀ (v : Nat) (x : Int32), P[v]? = some x → 0 ≤ x.toInt → ∃ (j : Nat) (z : Int32), i ≤ j ∧ j < S ∧ H[j]? = some z ∧ z.toInt = ((v : Nat) : Int)) (hy : H[i]? = some y) (hyv : y.toInt = (yv : Int)) (hm : m.toInt < 0) : ∀ v x, (P.set yv m)[v]? = some x → 0 ≤ x.toInt → ∃ j z, i + 1 ≤ j ∧ j < S ∧ H[j]? = some z ∧ z.toInt = ((v : Nat) : Int) := by
  intro v x hx hx0
  by_cases e : v = yv
  · subst e
    have hl : v < P.length := by have := (List.getElem?_eq_some_iff.mp hx).1; simpa using this
    rw [List.getElem?_set_self hl] at hx
    cases hx; omega
  · rw [List.getElem?_set_ne (fun q => e q.symm)] at hx
    obtain ⟨j, z, a, b, d, f⟩ := h v x hx hx0
    refine ⟨j, z, ?_, b, d, f⟩
    rcases Nat.lt_or_ge i j with q | q
    · exact q
    · have : j = i := by omega
      subst this
      cases d.symm.trans hy
      omega

theorem d3_0 : decode jdk_65_method_103_code 0 = .ok (.iconst 0, 1) := by decide +kernel
theorem d3_1 : decode jdk_65_method_103_code 1 = .ok (.istore_n 2, 1) := by decide +kernel
theorem d3_2 : decode jdk_65_method_103_code 2 = .ok (.aload_n 0, 1) := by decide +kernel
theorem d3_3 : decode jdk_65_method_103_code 3 = .ok (.arraylength, 1) := by decide +kernel
theorem d3_4 : decode jdk_65_method_103_code 4 = .ok (.istore_n 3, 1) := by decide +kernel
theorem d3_5 : decode jdk_65_method_103_code 5 = .ok (.iload_n 2, 1) := by decide +kernel
theorem d3_6 : decode jdk_65_method_103_code 6 = .ok (.iload_n 3, 1) := by decide +kernel
theorem d3_7 : decode jdk_65_method_103_code 7 = .ok (.if_icmp .ge 13, 3) := by decide +kernel
theorem d3_10 : decode jdk_65_method_103_code 10 = .ok (.aload_n 0, 1) := by decide +kernel
theorem d3_11 : decode jdk_65_method_103_code 11 = .ok (.iload_n 2, 1) := by decide +kernel
theorem d3_12 : decode jdk_65_method_103_code 12 = .ok (.iload_n 1, 1) := by decide +kernel
theorem d3_13 : decode jdk_65_method_103_code 13 = .ok (.iastore, 1) := by decide +kernel
theorem d3_14 : decode jdk_65_method_103_code 14 = .ok (.iinc 2 1, 3) := by decide +kernel
theorem d3_17 : decode jdk_65_method_103_code 17 = .ok (.goto (-12), 3) := by decide +kernel
theorem d3_20 : decode jdk_65_method_103_code 20 = .ok (.return_, 1) := by decide +kernel
theorem pn_3 : plainFor (⟨"java/util/Arrays", "fill", "([II)V"⟩ : MethodName) = true := by first | exact plainFor_of_name (by first | (simp [plainName, overriddenIn]; done) | decide +kernel) | decide +kernel
set_option maxRecDepth 65536 in
set_option maxHeartbeats 40000000 in
theorem rm_3 (l : Launch) (Z : State) (a0 : Array Value) (hw : ∀ d ∈ tables_1, d.before a0 Z = true) (b : Addr) (x v0 v1 v2 v3 : Int32) (h : Heap) (n0 : Nat) (Z0 : n0 ≤ h.size) (A_b : AI Z h b .int [.int v0, .int v1, .int v2, .int v3]) (zb : n0 ≤ b) :
    Does l Z (⟨"java/util/Arrays", "fill", "([II)V"⟩ : MethodName) jdk_65_method_103_code 4 none ({ frames := 0, cells := 0, slots := 0, locals := 0 } : Room) #[(.ref b), (.int x)] h n0 (fun v' h' => v' = none ∧ n0 ≤ h'.size ∧ Keep h h' [b] ∧ AI Z h' b .int [.int x, .int x, .int x, .int x]) := by
  refine Does.of_body pn_3 [.val (.ref b), .val (.int x), .unset, .unset] (fun m => by first | (simp [entryFrame, mkF, argsToLocals, Value.category]; done) | rfl) ?_
  intro W hWl cx
  subst hWl
  have cx : Cx W Z "java/util/Arrays" "fill" jdk_65_method_103_code 4 none := cx
  have l32_0 : (0 : Int32).toInt = 0 := rfl
  have l32_1 : (1 : Int32).toInt = 1 := rfl
  have l4 : (4 : Int32).toInt = 4 := rfl
  have K_h := Keep.refl h [b]
  refine Ok.iconst cx d3_0 1 rfl (0 : Int32) rfl ?_
  refine Ok.istoreN cx d3_1 rfl One.u [.val (.ref b), .val (.int x), .val (.int (0 : Int32)), .unset] rfl 2 rfl ?_
  refine Ok.aloadN cx d3_2 rfl 3 rfl ?_
  refine Ok.arraylength cx d3_3 A_b (4 : Int32) rfl 4 rfl ?_
  refine Ok.istoreN cx d3_4 rfl One.u [.val (.ref b), .val (.int x), .val (.int (0 : Int32)), .val (.int (4 : Int32))] rfl 5 rfl ?_
  have ix : (0 : Int32).toInt = 0 := rfl
  refine Ok.iloadN cx d3_5 rfl 6 rfl ?_
  refine Ok.iloadN cx d3_6 rfl 7 rfl ?_
  refine Ok.icmp_ge cx d3_7 20 10 (by decide) rfl (fun c7 => by exfalso; omega) (fun c7 => ?_)
  refine Ok.aloadN cx d3_10 rfl 11 rfl ?_
  refine Ok.iloadN cx d3_11 rfl 12 rfl ?_
  refine Ok.iloadN cx d3_12 rfl 13 rfl ?_
  refine Ok.iastore cx d3_13 A_b (0) ix (by simp) (by first | assumption | omega) 14 rfl fun h13_ W13 G13 => ?_
  have Z0 := Nat.le_trans Z0 (Nat.le_of_eq W13.size.symm)
  have K_h := K_h.wr W13 (Or.inl (List.mem_of_getElem? (i := 0) rfl))
  have A_b := G13
  have A_b : AI Z h13_ b .int [.int x, .int v1, .int v2, .int v3] := A_b
  refine Ok.iinc cx d3_14 rfl (1 : Int32) rfl (fun y => [.val (.ref b), .val (.int x), .val (.int y), .val (.int (4 : Int32))]) (fun _ => rfl) 17 rfl fun t14 e14 => ?_
  refine Ok.goto cx d3_17 5 (by decide) ?_
  have ix : t14.toInt = 1 := by have := own_add e14 (by omega) (by omega); omega
  refine Ok.iloadN cx d3_5 rfl 6 rfl ?_
  refine Ok.iloadN cx d3_6 rfl 7 rfl ?_
  refine Ok.icmp_ge cx d3_7 20 10 (by decide) rfl (fun c7 => by exfalso; omega) (fun c7 => ?_)
  refine Ok.aloadN cx d3_10 rfl 11 rfl ?_
  refine Ok.iloadN cx d3_11 rfl 12 rfl ?_
  refine Ok.iloadN cx d3_12 rfl 13 rfl ?_
  refine Ok.iastore cx d3_13 A_b (1) ix (by simp) (by first | assumption | omega) 14 rfl fun h13_ W13 G13 => ?_
  have Z0 := Nat.le_trans Z0 (Nat.le_of_eq W13.size.symm)
  have K_h := K_h.wr W13 (Or.inl (List.mem_of_getElem? (i := 0) rfl))
  have A_b := G13
  have A_b : AI Z h13_ b .int [.int x, .int x, .int v2, .int v3] := A_b
  refine Ok.iinc cx d3_14 rfl (1 : Int32) rfl (fun y => [.val (.ref b), .val (.int x), .val (.int y), .val (.int (4 : Int32))]) (fun _ => rfl) 17 rfl fun t14 e14 => ?_
  refine Ok.goto cx d3_17 5 (by decide) ?_
  have ix : t14.toInt = 2 := by have := own_add e14 (by omega) (by omega); omega
  refine Ok.iloadN cx d3_5 rfl 6 rfl ?_
  refine Ok.iloadN cx d3_6 rfl 7 rfl ?_
  refine Ok.icmp_ge cx d3_7 20 10 (by decide) rfl (fun c7 => by exfalso; omega) (fun c7 => ?_)
  refine Ok.aloadN cx d3_10 rfl 11 rfl ?_
  refine Ok.iloadN cx d3_11 rfl 12 rfl ?_
  refine Ok.iloadN cx d3_12 rfl 13 rfl ?_
  refine Ok.iastore cx d3_13 A_b (2) ix (by simp) (by first | assumption | omega) 14 rfl fun h13_ W13 G13 => ?_
  have Z0 := Nat.le_trans Z0 (Nat.le_of_eq W13.size.symm)
  have K_h := K_h.wr W13 (Or.inl (List.mem_of_getElem? (i := 0) rfl))
  have A_b := G13
  have A_b : AI Z h13_ b .int [.int x, .int x, .int x, .int v3] := A_b
  refine Ok.iinc cx d3_14 rfl (1 : Int32) rfl (fun y => [.val (.ref b), .val (.int x), .val (.int y), .val (.int (4 : Int32))]) (fun _ => rfl) 17 rfl fun t14 e14 => ?_
  refine Ok.goto cx d3_17 5 (by decide) ?_
  have ix : t14.toInt = 3 := by have := own_add e14 (by omega) (by omega); omega
  refine Ok.iloadN cx d3_5 rfl 6 rfl ?_
  refine Ok.iloadN cx d3_6 rfl 7 rfl ?_
  refine Ok.icmp_ge cx d3_7 20 10 (by decide) rfl (fun c7 => by exfalso; omega) (fun c7 => ?_)
  refine Ok.aloadN cx d3_10 rfl 11 rfl ?_
  refine Ok.iloadN cx d3_11 rfl 12 rfl ?_
  refine Ok.iloadN cx d3_12 rfl 13 rfl ?_
  refine Ok.iastore cx d3_13 A_b (3) ix (by simp) (by first | assumption | omega) 14 rfl fun h13_ W13 G13 => ?_
  have Z0 := Nat.le_trans Z0 (Nat.le_of_eq W13.size.symm)
  have K_h := K_h.wr W13 (Or.inl (List.mem_of_getElem? (i := 0) rfl))
  have A_b := G13
  have A_b : AI Z h13_ b .int [.int x, .int x, .int x, .int x] := A_b
  refine Ok.iinc cx d3_14 rfl (1 : Int32) rfl (fun y => [.val (.ref b), .val (.int x), .val (.int y), .val (.int (4 : Int32))]) (fun _ => rfl) 17 rfl fun t14 e14 => ?_
  refine Ok.goto cx d3_17 5 (by decide) ?_
  have ix : t14.toInt = 4 := by have := own_add e14 (by omega) (by omega); omega
  refine Ok.iloadN cx d3_5 rfl 6 rfl ?_
  refine Ok.iloadN cx d3_6 rfl 7 rfl ?_
  refine Ok.icmp_ge cx d3_7 20 10 (by decide) rfl (fun c7 => ?_) (fun c7 => by exfalso; omega)
  exact Ok.vreturn cx d3_20 (by decide) (by decide) ⟨rfl, Z0, K_h, A_b⟩
theorem d1_0 : decode prog_190_method_1_code 0 = .ok (.aload_n 0, 1) := by decide +kernel
theorem d1_1 : decode prog_190_method_1_code 1 = .ok (.invokespecial 1, 3) := by decide +kernel
theorem d1_4 : decode prog_190_method_1_code 4 = .ok (.aload_n 0, 1) := by decide +kernel
theorem d1_5 : decode prog_190_method_1_code 5 = .ok (.iload_n 1, 1) := by decide +kernel
theorem d1_6 : decode prog_190_method_1_code 6 = .ok (.newarray .int, 2) := by decide +kernel
theorem d1_8 : decode prog_190_method_1_code 8 = .ok (.putfield 7, 3) := by decide +kernel
theorem d1_11 : decode prog_190_method_1_code 11 = .ok (.aload_n 0, 1) := by decide +kernel
theorem d1_12 : decode prog_190_method_1_code 12 = .ok (.iload_n 1, 1) := by decide +kernel
theorem d1_13 : decode prog_190_method_1_code 13 = .ok (.newarray .int, 2) := by decide +kernel
theorem d1_15 : decode prog_190_method_1_code 15 = .ok (.putfield 13, 3) := by decide +kernel
theorem d1_18 : decode prog_190_method_1_code 18 = .ok (.aload_n 0, 1) := by decide +kernel
theorem d1_19 : decode prog_190_method_1_code 19 = .ok (.iload_n 1, 1) := by decide +kernel
theorem d1_20 : decode prog_190_method_1_code 20 = .ok (.newarray .long, 2) := by decide +kernel
theorem d1_22 : decode prog_190_method_1_code 22 = .ok (.putfield 16, 3) := by decide +kernel
theorem d1_25 : decode prog_190_method_1_code 25 = .ok (.aload_n 0, 1) := by decide +kernel
theorem d1_26 : decode prog_190_method_1_code 26 = .ok (.getfield 13, 3) := by decide +kernel
theorem d1_29 : decode prog_190_method_1_code 29 = .ok (.iconst (-1), 1) := by decide +kernel
theorem d1_30 : decode prog_190_method_1_code 30 = .ok (.invokestatic 20, 3) := by decide +kernel
theorem d1_33 : decode prog_190_method_1_code 33 = .ok (.return_, 1) := by decide +kernel
theorem pn_1 : plainFor (⟨"tracecut/partition/GainQueue", "<init>", "(I)V"⟩ : MethodName) = true := by first | exact plainFor_of_name (by first | (simp [plainName, overriddenIn]; done) | decide +kernel) | decide +kernel
theorem pd_0 : parseMethodDescriptor "([II)V" = some ⟨[(.array .int), .int], none⟩ := by decide +kernel
set_option maxRecDepth 65536 in
set_option maxHeartbeats 40000000 in
theorem rm_1 (l : Launch) (Z : State) (a0 : Array Value) (hw : ∀ d ∈ tables_1, d.before a0 Z = true) (q : Addr) (p : Int32) (h : Heap) (n0 : Nat) (Z0 : n0 ≤ h.size) (E_q : Exa Z h q "tracecut/partition/GainQueue") (F_heap : Fld Z h q "tracecut/partition/GainQueue" "heap" "[I" .null) (F_places : Fld Z h q "tracecut/partition/GainQueue" "places" "[I" .null) (F_gains : Fld Z h q "tracecut/partition/GainQueue" "gains" "[J" .null) (F_size : Fld Z h q "tracecut/partition/GainQueue" "size" "I" (.int 0)) (zq : n0 ≤ q) (hp : p.toInt = ((4 : Nat) : Int)) :
    Does l Z (⟨"tracecut/partition/GainQueue", "<init>", "(I)V"⟩ : MethodName) prog_190_method_1_code 2 none ({ frames := 1, cells := 3, slots := 12, locals := 15 } : Room) #[(.ref q), (.int p)] h n0 (fun v h' => v = none ∧ ∃ a b g, GQ Z h' q a b g [0, 0, 0, 0] [-1, -1, -1, -1] [0, 0, 0, 0] 0 ∧ q ≠ a ∧ q ≠ b ∧ q ≠ g ∧ a ≠ b ∧ a ≠ g ∧ b ≠ g ∧ n0 ≤ h'.size ∧ n0 ≤ a ∧ n0 ≤ b ∧ n0 ≤ g) := by
  refine Does.of_body pn_1 [.val (.ref q), .val (.int p)] (fun m => by first | (simp [entryFrame, mkF, argsToLocals, Value.category]; done) | rfl) ?_
  intro W hWl cx
  subst hWl
  have cx : Cx W Z "tracecut/partition/GainQueue" "<init>" prog_190_method_1_code 2 none := cx
  have l32_m1 : (-1 : Int32).toInt = -1 := rfl
  refine Ok.aloadN cx d1_0 rfl 1 rfl ?_
  refine Ok.initObj cx (own_w hw 6 rfl) (own_w hw 7 rfl) (own_w hw 8 rfl) d1_1 rfl (by decide) 0 rfl (by decide) 4 rfl ?_
  refine Ok.aloadN cx d1_4 rfl 5 rfl ?_
  refine Ok.iloadN cx d1_5 rfl 6 rfl ?_
  refine Ok.newarray cx (own_w hw 9 rfl) d1_6 rfl (4) hp (by omega) 4 (by omega) (by omega) (by decide) (by decide) 8 rfl fun h6_ a g6 E6 V6 => ?_
  have za : n0 ≤ a := by rw [g6]; exact Z0
  have ne_q_a : q ≠ a := by rw [g6]; exact Nat.ne_of_lt E_q.lt
  have ne_q_a : q ≠ a := by rw [g6]; exact Nat.ne_of_lt F_heap.lt
  have ne_q_a : q ≠ a := by rw [g6]; exact Nat.ne_of_lt F_places.lt
  have ne_q_a : q ≠ a := by rw [g6]; exact Nat.ne_of_lt F_gains.lt
  have ne_q_a : q ≠ a := by rw [g6]; exact Nat.ne_of_lt F_size.lt
  have Z0 := Nat.le_trans Z0 E6.1
  have E_q := E_q.ext E6
  have F_heap := F_heap.ext E6
  have F_places := F_places.ext E6
  have F_gains := F_gains.ext E6
  have F_size := F_size.ext E6
  refine Ok.putfield cx (own_w hw 10 rfl) d1_8 F_heap E_q (Or.inr ⟨(own_w hw 11 rfl), rfl, rfl⟩) (own_w hw 1 rfl) (ty := (.array .int)) (by decide) rfl rfl (by first | assumption | omega) 11 rfl fun h8_ W8 G8 => ?_
  have Z0 := Nat.le_trans Z0 (Nat.le_of_eq W8.size.symm)
  have E_q := E_q.wr W8
  have F_places := F_places.other W8 (Or.inr (slot_ne (a0 := a0) (Or.inr (own_w hw 13 rfl)) (Or.inr (own_w hw 11 rfl)) (by decide) (t := (.array .int)) (t' := (.array .int)) (by decide) (by decide)))
  have F_gains := F_gains.other W8 (Or.inr (slot_ne (a0 := a0) (Or.inr (own_w hw 16 rfl)) (Or.inr (own_w hw 11 rfl)) (by decide) (t := (.array .long)) (t' := (.array .int)) (by decide) (by decide)))
  have F_size := F_size.other W8 (Or.inr (slot_ne (a0 := a0) (Or.inl (own_w hw 27 rfl)) (Or.inr (own_w hw 11 rfl)) (by decide) (t := .int) (t' := (.array .int)) (by decide) (by decide)))
  have V6 := V6.other W8 (by first | assumption | (apply Ne.symm; assumption))
  have F_heap := G8
  refine Ok.aloadN cx d1_11 rfl 12 rfl ?_
  refine Ok.iloadN cx d1_12 rfl 13 rfl ?_
  refine Ok.newarray cx (own_w hw 9 rfl) d1_13 rfl (4) hp (by omega) 4 (by omega) (by omega) (by decide) (by decide) 15 rfl fun h13_ b g13 E13 V13 => ?_
  have zb : n0 ≤ b := by rw [g13]; exact Z0
  have ne_q_b : q ≠ b := by rw [g13]; exact Nat.ne_of_lt E_q.lt
  have ne_q_b : q ≠ b := by rw [g13]; exact Nat.ne_of_lt F_heap.lt
  have ne_q_b : q ≠ b := by rw [g13]; exact Nat.ne_of_lt F_places.lt
  have ne_q_b : q ≠ b := by rw [g13]; exact Nat.ne_of_lt F_gains.lt
  have ne_q_b : q ≠ b := by rw [g13]; exact Nat.ne_of_lt F_size.lt
  have ne_a_b : a ≠ b := by rw [g13]; exact Nat.ne_of_lt V6.lt
  have Z0 := Nat.le_trans Z0 E13.1
  have E_q := E_q.ext E13
  have F_heap := F_heap.ext E13
  have F_places := F_places.ext E13
  have F_gains := F_gains.ext E13
  have F_size := F_size.ext E13
  have V6 := V6.ext E13
  refine Ok.putfield cx (own_w hw 12 rfl) d1_15 F_places E_q (Or.inr ⟨(own_w hw 13 rfl), rfl, rfl⟩) (own_w hw 1 rfl) (ty := (.array .int)) (by decide) rfl rfl (by first | assumption | omega) 18 rfl fun h15_ W15 G15 => ?_
  have Z0 := Nat.le_trans Z0 (Nat.le_of_eq W15.size.symm)
  have E_q := E_q.wr W15
  have F_heap := F_heap.other W15 (Or.inr (slot_ne (a0 := a0) (Or.inr (own_w hw 11 rfl)) (Or.inr (own_w hw 13 rfl)) (by decide) (t := (.array .int)) (t' := (.array .int)) (by decide) (by decide)))
  have F_gains := F_gains.other W15 (Or.inr (slot_ne (a0 := a0) (Or.inr (own_w hw 16 rfl)) (Or.inr (own_w hw 13 rfl)) (by decide) (t := (.array .long)) (t' := (.array .int)) (by decide) (by decide)))
  have F_size := F_size.other W15 (Or.inr (slot_ne (a0 := a0) (Or.inl (own_w hw 27 rfl)) (Or.inr (own_w hw 13 rfl)) (by decide) (t := .int) (t' := (.array .int)) (by decide) (by decide)))
  have V6 := V6.other W15 (by first | assumption | (apply Ne.symm; assumption))
  have V13 := V13.other W15 (by first | assumption | (apply Ne.symm; assumption))
  have F_places := G15
  refine Ok.aloadN cx d1_18 rfl 19 rfl ?_
  refine Ok.iloadN cx d1_19 rfl 20 rfl ?_
  refine Ok.newarray cx (own_w hw 14 rfl) d1_20 rfl (4) hp (by omega) 4 (by omega) (by omega) (by decide) (by decide) 22 rfl fun h20_ g g20 E20 V20 => ?_
  have zg : n0 ≤ g := by rw [g20]; exact Z0
  have ne_q_g : q ≠ g := by rw [g20]; exact Nat.ne_of_lt E_q.lt
  have ne_q_g : q ≠ g := by rw [g20]; exact Nat.ne_of_lt F_heap.lt
  have ne_q_g : q ≠ g := by rw [g20]; exact Nat.ne_of_lt F_places.lt
  have ne_q_g : q ≠ g := by rw [g20]; exact Nat.ne_of_lt F_gains.lt
  have ne_q_g : q ≠ g := by rw [g20]; exact Nat.ne_of_lt F_size.lt
  have ne_a_g : a ≠ g := by rw [g20]; exact Nat.ne_of_lt V6.lt
  have ne_b_g : b ≠ g := by rw [g20]; exact Nat.ne_of_lt V13.lt
  have Z0 := Nat.le_trans Z0 E20.1
  have E_q := E_q.ext E20
  have F_heap := F_heap.ext E20
  have F_places := F_places.ext E20
  have F_gains := F_gains.ext E20
  have F_size := F_size.ext E20
  have V6 := V6.ext E20
  have V13 := V13.ext E20
  refine Ok.putfield cx (own_w hw 15 rfl) d1_22 F_gains E_q (Or.inr ⟨(own_w hw 16 rfl), rfl, rfl⟩) (own_w hw 1 rfl) (ty := (.array .long)) (by decide) rfl rfl (by first | assumption | omega) 25 rfl fun h22_ W22 G22 => ?_
  have Z0 := Nat.le_trans Z0 (Nat.le_of_eq W22.size.symm)
  have E_q := E_q.wr W22
  have F_heap := F_heap.other W22 (Or.inr (slot_ne (a0 := a0) (Or.inr (own_w hw 11 rfl)) (Or.inr (own_w hw 16 rfl)) (by decide) (t := (.array .int)) (t' := (.array .long)) (by decide) (by decide)))
  have F_places := F_places.other W22 (Or.inr (slot_ne (a0 := a0) (Or.inr (own_w hw 13 rfl)) (Or.inr (own_w hw 16 rfl)) (by decide) (t := (.array .int)) (t' := (.array .long)) (by decide) (by decide)))
  have F_size := F_size.other W22 (Or.inr (slot_ne (a0 := a0) (Or.inl (own_w hw 27 rfl)) (Or.inr (own_w hw 16 rfl)) (by decide) (t := .int) (t' := (.array .long)) (by decide) (by decide)))
  have V6 := V6.other W22 (by first | assumption | (apply Ne.symm; assumption))
  have V13 := V13.other W22 (by first | assumption | (apply Ne.symm; assumption))
  have V20 := V20.other W22 (by first | assumption | (apply Ne.symm; assumption))
  have F_gains := G22
  refine Ok.aloadN cx d1_25 rfl 26 rfl ?_
  refine Ok.getfield cx (own_w hw 12 rfl) d1_26 F_places 29 rfl ?_
  refine Ok.iconst cx d1_29 30 rfl (-1 : Int32) rfl ?_
  refine Ok.callStatic cx [(.ref b), (.int (-1 : Int32))] [] rfl (own_w hw 17 rfl) (own_w hw 18 rfl) (own_w hw 19 rfl) (own_w hw 20 rfl) d1_30 (by decide) pd_0 rfl rfl  (rm_3 W.l Z a0 hw b (-1 : Int32) 0 0 0 0 h22_ n0 Z0 V13 zb) (by decide) 0 rfl (by decide) (by decide) (by decide) 33 rfl fun v30 h30_ q30 => ?_
  obtain ⟨rfl, Z0, K_f, V13⟩ := q30
  have F_heap := F_heap.keep K_f (ninS ne_q_b nin0)
  have F_places := F_places.keep K_f (ninS ne_q_b nin0)
  have F_gains := F_gains.keep K_f (ninS ne_q_b nin0)
  have F_size := F_size.keep K_f (ninS ne_q_b nin0)
  have E_q := E_q.keep K_f
  have V6 := V6.keep K_f (ninS ne_a_b nin0)
  have V20 := V20.keep K_f (ninS (Ne.symm ne_b_g) nin0)
  show Ok _ _ _ _ _ _ _ _ _ []
  exact Ok.vreturn cx d1_33 (by decide) (by decide) ⟨rfl, a, b, g, ⟨E_q, F_heap, F_places, F_gains, F_size, V6, V13, V20, rfl, rfl, rfl⟩, ne_q_a, ne_q_b, ne_q_g, ne_a_b, ne_a_g, ne_b_g, Z0, za, zb, zg⟩
theorem d5_0 : decode prog_190_method_2_code 0 = .ok (.aload_n 0, 1) := by decide +kernel
theorem d5_1 : decode prog_190_method_2_code 1 = .ok (.getfield 26, 3) := by decide +kernel
theorem d5_4 : decode prog_190_method_2_code 4 = .ok (.ifCond .ne 7, 3) := by decide +kernel
theorem d5_7 : decode prog_190_method_2_code 7 = .ok (.iconst 1, 1) := by decide +kernel
theorem d5_8 : decode prog_190_method_2_code 8 = .ok (.goto 4, 3) := by decide +kernel
theorem d5_11 : decode prog_190_method_2_code 11 = .ok (.iconst 0, 1) := by decide +kernel
theorem d5_12 : decode prog_190_method_2_code 12 = .ok (.ireturn, 1) := by decide +kernel
theorem pn_5 : plainFor (⟨"tracecut/partition/GainQueue", "isEmpty", "()Z"⟩ : MethodName) = true := by first | exact plainFor_of_name (by first | (simp [plainName, overriddenIn]; done) | decide +kernel) | decide +kernel
set_option maxRecDepth 65536 in
set_option maxHeartbeats 40000000 in
theorem rm_5 (l : Launch) (Z : State) (a0 : Array Value) (hw : ∀ d ∈ tables_1, d.before a0 Z = true) (q a b g : Addr) (H P : List Int32) (gs : List Int64) (sz : Int32) (h : Heap) (n0 : Nat) (Z0 : n0 ≤ h.size) (X_ : GQ Z h q a b g H P gs sz) :
    Does l Z (⟨"tracecut/partition/GainQueue", "isEmpty", "()Z"⟩ : MethodName) prog_190_method_2_code 1 (some .boolean) ({ frames := 0, cells := 0, slots := 0, locals := 0 } : Room) #[(.ref q)] h n0 (fun v' h' => h = h' ∧ ∃ x : Int32, v' = some (.int x) ∧ (x.toInt = 1 ∧ sz.toInt = 0 ∨ x.toInt = 0 ∧ sz.toInt ≠ 0)) := by
  refine Does.of_body pn_5 [.val (.ref q)] (fun m => by first | (simp [entryFrame, mkF, argsToLocals, Value.category]; done) | rfl) ?_
  intro W hWl cx
  subst hWl
  have cx : Cx W Z "tracecut/partition/GainQueue" "isEmpty" prog_190_method_2_code 1 (some .boolean) := cx
  have lz1 : ((1 : Int32) &&& 1).toInt = 1 := rfl
  have lz0 : ((0 : Int32) &&& 1).toInt = 0 := rfl
  have l32_1 : (1 : Int32).toInt = 1 := rfl
  have l32_0 : (0 : Int32).toInt = 0 := rfl
  obtain ⟨E_q, F_heap, F_places, F_gains, F_size, A_a, A_b, A_g, l1, l2, l3⟩ := X_
  refine Ok.aloadN cx d5_0 rfl 1 rfl ?_
  refine Ok.getfield cx (own_w hw 26 rfl) d5_1 F_size 4 rfl ?_
  refine Ok.if_ne cx d5_4 11 7 (by decide) rfl (fun c4 => ?_) (fun c4 => ?_)
  · skip
    refine Ok.iconst cx d5_11 12 rfl (0 : Int32) rfl ?_
    exact Ok.zreturn cx d5_12 (by decide) (by decide) ⟨rfl, _, rfl, by omega⟩
  · skip
    refine Ok.iconst cx d5_7 8 rfl (1 : Int32) rfl ?_
    refine Ok.goto cx d5_8 12 (by decide) ?_
    exact Ok.zreturn cx d5_12 (by decide) (by decide) ⟨rfl, _, rfl, by omega⟩
theorem d10_0 : decode prog_190_method_7_code 0 = .ok (.aload_n 0, 1) := by decide +kernel
theorem d10_1 : decode prog_190_method_7_code 1 = .ok (.getfield 16, 3) := by decide +kernel
theorem d10_4 : decode prog_190_method_7_code 4 = .ok (.iload_n 1, 1) := by decide +kernel
theorem d10_5 : decode prog_190_method_7_code 5 = .ok (.laload, 1) := by decide +kernel
theorem d10_6 : decode prog_190_method_7_code 6 = .ok (.aload_n 0, 1) := by decide +kernel
theorem d10_7 : decode prog_190_method_7_code 7 = .ok (.getfield 16, 3) := by decide +kernel
theorem d10_10 : decode prog_190_method_7_code 10 = .ok (.iload_n 2, 1) := by decide +kernel
theorem d10_11 : decode prog_190_method_7_code 11 = .ok (.laload, 1) := by decide +kernel
theorem d10_12 : decode prog_190_method_7_code 12 = .ok (.lcmp, 1) := by decide +kernel
theorem d10_13 : decode prog_190_method_7_code 13 = .ok (.ifCond .gt 24, 3) := by decide +kernel
theorem d10_16 : decode prog_190_method_7_code 16 = .ok (.aload_n 0, 1) := by decide +kernel
theorem d10_17 : decode prog_190_method_7_code 17 = .ok (.getfield 16, 3) := by decide +kernel
theorem d10_20 : decode prog_190_method_7_code 20 = .ok (.iload_n 1, 1) := by decide +kernel
theorem d10_21 : decode prog_190_method_7_code 21 = .ok (.laload, 1) := by decide +kernel
theorem d10_22 : decode prog_190_method_7_code 22 = .ok (.aload_n 0, 1) := by decide +kernel
theorem d10_23 : decode prog_190_method_7_code 23 = .ok (.getfield 16, 3) := by decide +kernel
theorem d10_26 : decode prog_190_method_7_code 26 = .ok (.iload_n 2, 1) := by decide +kernel
theorem d10_27 : decode prog_190_method_7_code 27 = .ok (.laload, 1) := by decide +kernel
theorem d10_28 : decode prog_190_method_7_code 28 = .ok (.lcmp, 1) := by decide +kernel
theorem d10_29 : decode prog_190_method_7_code 29 = .ok (.ifCond .ne 12, 3) := by decide +kernel
theorem d10_32 : decode prog_190_method_7_code 32 = .ok (.iload_n 1, 1) := by decide +kernel
theorem d10_33 : decode prog_190_method_7_code 33 = .ok (.iload_n 2, 1) := by decide +kernel
theorem d10_34 : decode prog_190_method_7_code 34 = .ok (.if_icmp .ge 7, 3) := by decide +kernel
theorem d10_37 : decode prog_190_method_7_code 37 = .ok (.iconst 1, 1) := by decide +kernel
theorem d10_38 : decode prog_190_method_7_code 38 = .ok (.goto 4, 3) := by decide +kernel
theorem d10_41 : decode prog_190_method_7_code 41 = .ok (.iconst 0, 1) := by decide +kernel
theorem d10_42 : decode prog_190_method_7_code 42 = .ok (.ireturn, 1) := by decide +kernel
theorem pn_10 : plainFor (⟨"tracecut/partition/GainQueue", "before", "(II)Z"⟩ : MethodName) = true := by first | exact plainFor_of_name (by first | (simp [plainName, overriddenIn]; done) | decide +kernel) | decide +kernel
set_option maxRecDepth 65536 in
set_option maxHeartbeats 40000000 in
theorem rm_10 (l : Launch) (Z : State) (a0 : Array Value) (hw : ∀ d ∈ tables_1, d.before a0 Z = true) (q g : Addr) (x y : Int32) (gs : List Int64) (u v : Nat) (h : Heap) (n0 : Nat) (Z0 : n0 ≤ h.size) (F_gains : Fld Z h q "tracecut/partition/GainQueue" "gains" "[J" (.ref g)) (A_g : AI Z h g .long (gs.map Value.long)) (l3 : gs.length = 4) (hx : x.toInt = (u : Int)) (hu : u < 4) (hy : y.toInt = (v : Int)) (hv : v < 4) :
    Does l Z (⟨"tracecut/partition/GainQueue", "before", "(II)Z"⟩ : MethodName) prog_190_method_7_code 3 (some .boolean) ({ frames := 0, cells := 0, slots := 0, locals := 0 } : Room) #[(.ref q), (.int x), (.int y)] h n0 (fun v' h' => h = h' ∧ ∃ r : Int32, v' = some (.int r)) := by
  refine Does.of_body pn_10 [.val (.ref q), .val (.int x), .val (.int y)] (fun m => by first | (simp [entryFrame, mkF, argsToLocals, Value.category]; done) | rfl) ?_
  intro W hWl cx
  subst hWl
  have cx : Cx W Z "tracecut/partition/GainQueue" "before" prog_190_method_7_code 3 (some .boolean) := cx
  have lz1 : ((1 : Int32) &&& 1).toInt = 1 := rfl
  have lz0 : ((0 : Int32) &&& 1).toInt = 0 := rfl
  have l32_1 : (1 : Int32).toInt = 1 := rfl
  have l32_0 : (0 : Int32).toInt = 0 := rfl
  obtain ⟨g1, hg1⟩ := own_some (L := gs) (i := u) (by omega)
  obtain ⟨g2, hg2⟩ := own_some (L := gs) (i := v) (by omega)
  refine Ok.aloadN cx d10_0 rfl 1 rfl ?_
  refine Ok.getfield cx (own_w hw 15 rfl) d10_1 F_gains 4 rfl ?_
  refine Ok.iloadN cx d10_4 rfl 5 rfl ?_
  refine Ok.laload cx d10_5 A_g (u) hx (v := (.long g1)) (own_ml hg1) 6 rfl ?_
  refine Ok.aloadN cx d10_6 rfl 7 rfl ?_
  refine Ok.getfield cx (own_w hw 15 rfl) d10_7 F_gains 10 rfl ?_
  refine Ok.iloadN cx d10_10 rfl 11 rfl ?_
  refine Ok.laload cx d10_11 A_g (v) hy (v := (.long g2)) (own_ml hg2) 12 rfl ?_
  refine Ok.lcmp_gt cx d10_12 d10_13 37 16 (by decide) rfl (fun c13 => ?_) (fun c13 => ?_)
  · skip
    refine Ok.iconst cx d10_37 38 rfl (1 : Int32) rfl ?_
    refine Ok.goto cx d10_38 42 (by decide) ?_
    exact Ok.zreturn cx d10_42 (by decide) (by decide) ⟨rfl, _, rfl⟩
  · skip
    refine Ok.aloadN cx d10_16 rfl 17 rfl ?_
    refine Ok.getfield cx (own_w hw 15 rfl) d10_17 F_gains 20 rfl ?_
    refine Ok.iloadN cx d10_20 rfl 21 rfl ?_
    refine Ok.laload cx d10_21 A_g (u) hx (v := (.long g1)) (own_ml hg1) 22 rfl ?_
    refine Ok.aloadN cx d10_22 rfl 23 rfl ?_
    refine Ok.getfield cx (own_w hw 15 rfl) d10_23 F_gains 26 rfl ?_
    refine Ok.iloadN cx d10_26 rfl 27 rfl ?_
    refine Ok.laload cx d10_27 A_g (v) hy (v := (.long g2)) (own_ml hg2) 28 rfl ?_
    refine Ok.lcmp_ne cx d10_28 d10_29 41 32 (by decide) rfl (fun c29 => ?_) (fun c29 => ?_)
    · skip
      refine Ok.iconst cx d10_41 42 rfl (0 : Int32) rfl ?_
      exact Ok.zreturn cx d10_42 (by decide) (by decide) ⟨rfl, _, rfl⟩
    · skip
      refine Ok.iloadN cx d10_32 rfl 33 rfl ?_
      refine Ok.iloadN cx d10_33 rfl 34 rfl ?_
      refine Ok.icmp_ge cx d10_34 41 37 (by decide) rfl (fun c34 => ?_) (fun c34 => ?_)
      · skip
        refine Ok.iconst cx d10_41 42 rfl (0 : Int32) rfl ?_
        exact Ok.zreturn cx d10_42 (by decide) (by decide) ⟨rfl, _, rfl⟩
      · skip
        refine Ok.iconst cx d10_37 38 rfl (1 : Int32) rfl ?_
        refine Ok.goto cx d10_38 42 (by decide) ?_
        exact Ok.zreturn cx d10_42 (by decide) (by decide) ⟨rfl, _, rfl⟩
theorem d7_0 : decode prog_190_method_8_code 0 = .ok (.iload_n 1, 1) := by decide +kernel
theorem d7_1 : decode prog_190_method_8_code 1 = .ok (.istore_n 2, 1) := by decide +kernel
theorem d7_2 : decode prog_190_method_8_code 2 = .ok (.aload_n 0, 1) := by decide +kernel
theorem d7_3 : decode prog_190_method_8_code 3 = .ok (.getfield 7, 3) := by decide +kernel
theorem d7_6 : decode prog_190_method_8_code 6 = .ok (.iload_n 2, 1) := by decide +kernel
theorem d7_7 : decode prog_190_method_8_code 7 = .ok (.iaload, 1) := by decide +kernel
theorem d7_8 : decode prog_190_method_8_code 8 = .ok (.istore_n 3, 1) := by decide +kernel
theorem d7_9 : decode prog_190_method_8_code 9 = .ok (.iload_n 2, 1) := by decide +kernel
theorem d7_10 : decode prog_190_method_8_code 10 = .ok (.ifCond .le 59, 3) := by decide +kernel
theorem d7_13 : decode prog_190_method_8_code 13 = .ok (.iload_n 2, 1) := by decide +kernel
theorem d7_14 : decode prog_190_method_8_code 14 = .ok (.iconst 1, 1) := by decide +kernel
theorem d7_15 : decode prog_190_method_8_code 15 = .ok (.isub, 1) := by decide +kernel
theorem d7_16 : decode prog_190_method_8_code 16 = .ok (.iconst 2, 1) := by decide +kernel
theorem d7_17 : decode prog_190_method_8_code 17 = .ok (.idiv, 1) := by decide +kernel
theorem d7_18 : decode prog_190_method_8_code 18 = .ok (.istore 4, 2) := by decide +kernel
theorem d7_20 : decode prog_190_method_8_code 20 = .ok (.aload_n 0, 1) := by decide +kernel
theorem d7_21 : decode prog_190_method_8_code 21 = .ok (.iload_n 3, 1) := by decide +kernel
theorem d7_22 : decode prog_190_method_8_code 22 = .ok (.aload_n 0, 1) := by decide +kernel
theorem d7_23 : decode prog_190_method_8_code 23 = .ok (.getfield 7, 3) := by decide +kernel
theorem d7_26 : decode prog_190_method_8_code 26 = .ok (.iload 4, 2) := by decide +kernel
theorem d7_28 : decode prog_190_method_8_code 28 = .ok (.iaload, 1) := by decide +kernel
theorem d7_29 : decode prog_190_method_8_code 29 = .ok (.invokevirtual 40, 3) := by decide +kernel
theorem d7_32 : decode prog_190_method_8_code 32 = .ok (.ifCond .ne 6, 3) := by decide +kernel
theorem d7_35 : decode prog_190_method_8_code 35 = .ok (.goto 34, 3) := by decide +kernel
theorem d7_38 : decode prog_190_method_8_code 38 = .ok (.aload_n 0, 1) := by decide +kernel
theorem d7_39 : decode prog_190_method_8_code 39 = .ok (.getfield 7, 3) := by decide +kernel
theorem d7_42 : decode prog_190_method_8_code 42 = .ok (.iload_n 2, 1) := by decide +kernel
theorem d7_43 : decode prog_190_method_8_code 43 = .ok (.aload_n 0, 1) := by decide +kernel
theorem d7_44 : decode prog_190_method_8_code 44 = .ok (.getfield 7, 3) := by decide +kernel
theorem d7_47 : decode prog_190_method_8_code 47 = .ok (.iload 4, 2) := by decide +kernel
theorem d7_49 : decode prog_190_method_8_code 49 = .ok (.iaload, 1) := by decide +kernel
theorem d7_50 : decode prog_190_method_8_code 50 = .ok (.iastore, 1) := by decide +kernel
theorem d7_51 : decode prog_190_method_8_code 51 = .ok (.aload_n 0, 1) := by decide +kernel
theorem d7_52 : decode prog_190_method_8_code 52 = .ok (.getfield 13, 3) := by decide +kernel
theorem d7_55 : decode prog_190_method_8_code 55 = .ok (.aload_n 0, 1) := by decide +kernel
theorem d7_56 : decode prog_190_method_8_code 56 = .ok (.getfield 7, 3) := by decide +kernel
theorem d7_59 : decode prog_190_method_8_code 59 = .ok (.iload_n 2, 1) := by decide +kernel
theorem d7_60 : decode prog_190_method_8_code 60 = .ok (.iaload, 1) := by decide +kernel
theorem d7_61 : decode prog_190_method_8_code 61 = .ok (.iload_n 2, 1) := by decide +kernel
theorem d7_62 : decode prog_190_method_8_code 62 = .ok (.iastore, 1) := by decide +kernel
theorem d7_63 : decode prog_190_method_8_code 63 = .ok (.iload 4, 2) := by decide +kernel
theorem d7_65 : decode prog_190_method_8_code 65 = .ok (.istore_n 2, 1) := by decide +kernel
theorem d7_66 : decode prog_190_method_8_code 66 = .ok (.goto (-57), 3) := by decide +kernel
theorem d7_69 : decode prog_190_method_8_code 69 = .ok (.aload_n 0, 1) := by decide +kernel
theorem d7_70 : decode prog_190_method_8_code 70 = .ok (.getfield 7, 3) := by decide +kernel
theorem d7_73 : decode prog_190_method_8_code 73 = .ok (.iload_n 2, 1) := by decide +kernel
theorem d7_74 : decode prog_190_method_8_code 74 = .ok (.iload_n 3, 1) := by decide +kernel
theorem d7_75 : decode prog_190_method_8_code 75 = .ok (.iastore, 1) := by decide +kernel
theorem d7_76 : decode prog_190_method_8_code 76 = .ok (.aload_n 0, 1) := by decide +kernel
theorem d7_77 : decode prog_190_method_8_code 77 = .ok (.getfield 13, 3) := by decide +kernel
theorem d7_80 : decode prog_190_method_8_code 80 = .ok (.iload_n 3, 1) := by decide +kernel
theorem d7_81 : decode prog_190_method_8_code 81 = .ok (.iload_n 2, 1) := by decide +kernel
theorem d7_82 : decode prog_190_method_8_code 82 = .ok (.iastore, 1) := by decide +kernel
theorem d7_83 : decode prog_190_method_8_code 83 = .ok (.return_, 1) := by decide +kernel
theorem pn_7 : plainFor (⟨"tracecut/partition/GainQueue", "up", "(I)V"⟩ : MethodName) = true := by first | exact plainFor_of_name (by first | (simp [plainName, overriddenIn]; done) | decide +kernel) | decide +kernel
theorem pd_1 : parseMethodDescriptor "(II)Z" = some ⟨[.int, .int], some .boolean⟩ := by decide +kernel
set_option maxRecDepth 65536 in
set_option maxHeartbeats 40000000 in
theorem rm_7 (l : Launch) (Z : State) (a0 : Array Value) (hw : ∀ d ∈ tables_1, d.before a0 Z = true) (q a b g : Addr) (fr nd : Int32) (H P : List Int32) (gs : List Int64) (sz : Int32) (T S p nv : Nat) (h : Heap) (n0 : Nat) (Z0 : n0 ≤ h.size) (X_ : GQ Z h q a b g H P gs sz) (I_ : own_I T H P S) (nqa : q ≠ a) (nqb : q ≠ b) (nqg : q ≠ g) (nab : a ≠ b) (nag : a ≠ g) (nbg : b ≠ g) (zq : n0 ≤ q) (za : n0 ≤ a) (zb : n0 ≤ b) (zg : n0 ≤ g) (hfr : fr.toInt = (p : Int)) (hpS : p < S) (hnd : H[p]? = some nd) (hnv : nd.toInt = (nv : Int)) (hnT : nv < T) :
    Does l Z (⟨"tracecut/partition/GainQueue", "up", "(I)V"⟩ : MethodName) prog_190_method_8_code 5 none ({ frames := 1, cells := 0, slots := 0, locals := 14 } : Room) #[(.ref q), (.int fr)] h n0 (fun v' h' => v' = none ∧ n0 ≤ h'.size ∧ ∃ H' P' : List Int32, GQ Z h' q a b g H' P' gs sz ∧ own_I T H' P' S) := by
  refine Does.of_body pn_7 [.val (.ref q), .val (.int fr), .unset, .unset, .unset] (fun m => by first | (simp [entryFrame, mkF, argsToLocals, Value.category]; done) | rfl) ?_
  intro W hWl cx
  subst hWl
  have cx : Cx W Z "tracecut/partition/GainQueue" "up" prog_190_method_8_code 5 none := cx
  have l32_1 : (1 : Int32).toInt = 1 := rfl
  have l32_2 : (2 : Int32).toInt = 2 := rfl
  have X0_ := X_
  obtain ⟨E_q, F_heap, F_places, F_gains, F_size, A_a, A_b, A_g, l1, l2, l3⟩ := X_
  have X_ := X0_
  have hnT4 : nv < 4 := by have := I_.2.1; omega
  refine Ok.iloadN cx d7_0 rfl 1 rfl ?_
  refine Ok.istoreN cx d7_1 rfl One.u [.val (.ref q), .val (.int fr), .val (.int fr), .unset, .unset] rfl 2 rfl ?_
  refine Ok.aloadN cx d7_2 rfl 3 rfl ?_
  refine Ok.getfield cx (own_w hw 10 rfl) d7_3 F_heap 6 rfl ?_
  refine Ok.iloadN cx d7_6 rfl 7 rfl ?_
  refine Ok.iaload cx d7_7 A_a (p) hfr (v := (.int nd)) (own_mp hnd) 8 rfl ?_
  refine Ok.istoreN cx d7_8 rfl One.u [.val (.ref q), .val (.int fr), .val (.int fr), .val (.int nd), .unset] rfl 9 rfl ?_
  have J9 : ∀ (p : Nat) (pl : Int32) (s4 : Slot) (hh : Heap) (Hc P : List Int32), pl.toInt = (p : Int) → p < S → One s4 → n0 ≤ hh.size → GQ Z hh q a b g Hc P gs sz → own_I T (Hc.set p nd) P S → Ok W ({ frames := 1, cells := 0, slots := 0, locals := 14 } : Room) n0 (fun v' h' => v' = none ∧ n0 ≤ h'.size ∧ ∃ H' P' : List Int32, GQ Z h' q a b g H' P' gs sz ∧ own_I T H' P' S) hh 0 0 9 [.val (.ref q), .val (.int fr), .val (.int pl), .val (.int nd), s4] [] := by
    intro p
    induction p using Nat.strongRecOn with
    | ind p ih =>
      intro pl s4 hh Hc P hpl hpS hs4 Z0 X_ I_
      have hS4 : S ≤ 4 := by have := I_.1; have := I_.2.1; omega
      obtain ⟨E_q, F_heap, F_places, F_gains, F_size, A_a, A_b, A_g, l1, l2, l3⟩ := X_
      refine Ok.iloadN cx d7_9 rfl 10 rfl ?_
      refine Ok.if_le cx d7_10 69 13 (by decide) rfl (fun c10 => ?_) (fun c10 => ?_)
      · skip
        refine Ok.aloadN cx d7_69 rfl 70 rfl ?_
        refine Ok.getfield cx (own_w hw 10 rfl) d7_70 F_heap 73 rfl ?_
        refine Ok.iloadN cx d7_73 rfl 74 rfl ?_
        refine Ok.iloadN cx d7_74 rfl 75 rfl ?_
        refine Ok.iastore cx d7_75 A_a (p) hpl (by simp; omega) (by first | assumption | omega) 76 rfl fun h75_ W75 G75 => ?_
        have Z0 := Nat.le_trans Z0 (Nat.le_of_eq W75.size.symm)
        have E_q := E_q.wr W75
        have F_heap := F_heap.other W75 (Or.inl (by first | assumption | (apply Ne.symm; assumption)))
        have F_places := F_places.other W75 (Or.inl (by first | assumption | (apply Ne.symm; assumption)))
        have F_gains := F_gains.other W75 (Or.inl (by first | assumption | (apply Ne.symm; assumption)))
        have F_size := F_size.other W75 (Or.inl (by first | assumption | (apply Ne.symm; assumption)))
        have A_b := A_b.other W75 (by first | assumption | (apply Ne.symm; assumption))
        have A_g := A_g.other W75 (by first | assumption | (apply Ne.symm; assumption))
        have A_a := G75
        rw [← List.map_set] at A_a
        refine Ok.aloadN cx d7_76 rfl 77 rfl ?_
        refine Ok.getfield cx (own_w hw 12 rfl) d7_77 F_places 80 rfl ?_
        refine Ok.iloadN cx d7_80 rfl 81 rfl ?_
        refine Ok.iloadN cx d7_81 rfl 82 rfl ?_
        refine Ok.iastore cx d7_82 A_b (nv) hnv (by simp; omega) (by first | assumption | omega) 83 rfl fun h82_ W82 G82 => ?_
        have Z0 := Nat.le_trans Z0 (Nat.le_of_eq W82.size.symm)
        have E_q := E_q.wr W82
        have F_heap := F_heap.other W82 (Or.inl (by first | assumption | (apply Ne.symm; assumption)))
        have F_places := F_places.other W82 (Or.inl (by first | assumption | (apply Ne.symm; assumption)))
        have F_gains := F_gains.other W82 (Or.inl (by first | assumption | (apply Ne.symm; assumption)))
        have F_size := F_size.other W82 (Or.inl (by first | assumption | (apply Ne.symm; assumption)))
        have A_a := A_a.other W82 (by first | assumption | (apply Ne.symm; assumption))
        have A_g := A_g.other W82 (by first | assumption | (apply Ne.symm; assumption))
        have A_b := G82
        rw [← List.map_set] at A_b
        exact Ok.vreturn cx d7_83 (by decide) (by decide) ⟨rfl, Z0, _, _, ⟨E_q, F_heap, F_places, F_gains, F_size, A_a, A_b, A_g, (by simpa using l1), (by simpa using l2), l3⟩, own_fin I_ hpS l1 hnv⟩
      · skip
        refine Ok.iloadN cx d7_13 rfl 14 rfl ?_
        refine Ok.iconst cx d7_14 15 rfl (1 : Int32) rfl ?_
        refine Ok.isub cx d7_15 16 rfl fun t15 e15 => ?_
        refine Ok.iconst cx d7_16 17 rfl (2 : Int32) rfl ?_
        refine Ok.idiv cx d7_17 (by decide) 18 rfl fun t17 e17 => ?_
        refine Ok.istore cx d7_18 rfl hs4 [.val (.ref q), .val (.int fr), .val (.int pl), .val (.int nd), .val (.int t17)] rfl 20 rfl ?_
        refine Ok.aloadN cx d7_20 rfl 21 rfl ?_
        refine Ok.iloadN cx d7_21 rfl 22 rfl ?_
        refine Ok.aloadN cx d7_22 rfl 23 rfl ?_
        refine Ok.getfield cx (own_w hw 10 rfl) d7_23 F_heap 26 rfl ?_
        refine Ok.iload cx d7_26 rfl 28 rfl ?_
        have s15 := own_sub e15 (by omega) (by omega)
        have s17 := (c_idiv t15 2 2 rfl (by decide)).1 (by omega); rw [← e17] at s17
        obtain ⟨par, hpar, hparp⟩ : ∃ par : Nat, t17.toInt = (par : Int) ∧ par < p := ⟨t17.toInt.toNat, by omega, by omega⟩
        obtain ⟨y, yv, hy, hyv, hyT⟩ := I_.2.2.1 par (by omega)
        rw [List.getElem?_set_ne (by omega)] at hy
        have hT4 := I_.2.1
        refine Ok.iaload cx d7_28 A_a (par) hpar (v := (.int y)) (own_mp hy) 29 rfl ?_
        refine Ok.callPrivate cx (y0 := (⟨"tracecut/partition/GainQueue", "clear", "()V"⟩ : MethodName)) (a := q) [(.int nd), (.int y)] [] rfl (own_w hw 52 rfl) (own_w hw 53 rfl) (own_w hw 54 rfl) (own_w hw 24 rfl) rfl (own_w hw 2 rfl) (own_w hw 55 rfl) d7_29 (by decide) pd_1 rfl rfl E_q (rm_10 W.l Z a0 hw q g nd y gs nv yv hh n0 Z0 F_gains A_g l3 hnv (by omega) hyv (by omega)) (by decide) 0 rfl (by decide) (by decide) (by decide) 32 rfl fun v29 h29_ q29 => ?_
        obtain ⟨rfl, r29, rfl⟩ := q29
        show Ok _ _ _ _ _ _ _ _ _ [(.int r29)]
        refine Ok.if_ne cx d7_32 38 35 (by decide) rfl (fun c32 => ?_) (fun c32 => ?_)
        · skip
          refine Ok.aloadN cx d7_38 rfl 39 rfl ?_
          refine Ok.getfield cx (own_w hw 10 rfl) d7_39 F_heap 42 rfl ?_
          refine Ok.iloadN cx d7_42 rfl 43 rfl ?_
          refine Ok.aloadN cx d7_43 rfl 44 rfl ?_
          refine Ok.getfield cx (own_w hw 10 rfl) d7_44 F_heap 47 rfl ?_
          refine Ok.iload cx d7_47 rfl 49 rfl ?_
          refine Ok.iaload cx d7_49 A_a (par) hpar (v := (.int y)) (own_mp hy) 50 rfl ?_
          refine Ok.iastore cx d7_50 A_a (p) hpl (by simp; omega) (by first | assumption | omega) 51 rfl fun h50_ W50 G50 => ?_
          have Z0 := Nat.le_trans Z0 (Nat.le_of_eq W50.size.symm)
          have E_q := E_q.wr W50
          have F_heap := F_heap.other W50 (Or.inl (by first | assumption | (apply Ne.symm; assumption)))
          have F_places := F_places.other W50 (Or.inl (by first | assumption | (apply Ne.symm; assumption)))
          have F_gains := F_gains.other W50 (Or.inl (by first | assumption | (apply Ne.symm; assumption)))
          have F_size := F_size.other W50 (Or.inl (by first | assumption | (apply Ne.symm; assumption)))
          have A_b := A_b.other W50 (by first | assumption | (apply Ne.symm; assumption))
          have A_g := A_g.other W50 (by first | assumption | (apply Ne.symm; assumption))
          have A_a := G50
          rw [← List.map_set] at A_a
          refine Ok.aloadN cx d7_51 rfl 52 rfl ?_
          refine Ok.getfield cx (own_w hw 12 rfl) d7_52 F_places 55 rfl ?_
          refine Ok.aloadN cx d7_55 rfl 56 rfl ?_
          refine Ok.getfield cx (own_w hw 10 rfl) d7_56 F_heap 59 rfl ?_
          refine Ok.iloadN cx d7_59 rfl 60 rfl ?_
          refine Ok.iaload cx d7_60 A_a (p) hpl (v := (.int y)) (own_mp (List.getElem?_set_self (by omega))) 61 rfl ?_
          refine Ok.iloadN cx d7_61 rfl 62 rfl ?_
          refine Ok.iastore cx d7_62 A_b (yv) hyv (by simp; omega) (by first | assumption | omega) 63 rfl fun h62_ W62 G62 => ?_
          have Z0 := Nat.le_trans Z0 (Nat.le_of_eq W62.size.symm)
          have E_q := E_q.wr W62
          have F_heap := F_heap.other W62 (Or.inl (by first | assumption | (apply Ne.symm; assumption)))
          have F_places := F_places.other W62 (Or.inl (by first | assumption | (apply Ne.symm; assumption)))
          have F_gains := F_gains.other W62 (Or.inl (by first | assumption | (apply Ne.symm; assumption)))
          have F_size := F_size.other W62 (Or.inl (by first | assumption | (apply Ne.symm; assumption)))
          have A_a := A_a.other W62 (by first | assumption | (apply Ne.symm; assumption))
          have A_g := A_g.other W62 (by first | assumption | (apply Ne.symm; assumption))
          have A_b := G62
          rw [← List.map_set] at A_b
          refine Ok.iload cx d7_63 rfl 65 rfl ?_
          refine Ok.istoreN cx d7_65 rfl (One.val rfl) [.val (.ref q), .val (.int fr), .val (.int t17), .val (.int nd), .val (.int t17)] rfl 66 rfl ?_
          refine Ok.goto cx d7_66 9 (by decide) ?_
          exact ih par (by omega) t17 _ h62_ (Hc.set p y) (P.set yv pl) hpar (by omega) (One.val rfl) Z0 ⟨E_q, F_heap, F_places, F_gains, F_size, A_a, A_b, A_g, (by simpa using l1), (by simpa using l2), l3⟩ (own_swap I_ hpS (by omega) l1 hy hyv)
        · skip
          refine Ok.goto cx d7_35 69 (by decide) ?_
          refine Ok.aloadN cx d7_69 rfl 70 rfl ?_
          refine Ok.getfield cx (own_w hw 10 rfl) d7_70 F_heap 73 rfl ?_
          refine Ok.iloadN cx d7_73 rfl 74 rfl ?_
          refine Ok.iloadN cx d7_74 rfl 75 rfl ?_
          refine Ok.iastore cx d7_75 A_a (p) hpl (by simp; omega) (by first | assumption | omega) 76 rfl fun h75_ W75 G75 => ?_
          have Z0 := Nat.le_trans Z0 (Nat.le_of_eq W75.size.symm)
          have E_q := E_q.wr W75
          have F_heap := F_heap.other W75 (Or.inl (by first | assumption | (apply Ne.symm; assumption)))
          have F_places := F_places.other W75 (Or.inl (by first | assumption | (apply Ne.symm; assumption)))
          have F_gains := F_gains.other W75 (Or.inl (by first | assumption | (apply Ne.symm; assumption)))
          have F_size := F_size.other W75 (Or.inl (by first | assumption | (apply Ne.symm; assumption)))
          have A_b := A_b.other W75 (by first | assumption | (apply Ne.symm; assumption))
          have A_g := A_g.other W75 (by first | assumption | (apply Ne.symm; assumption))
          have A_a := G75
          rw [← List.map_set] at A_a
          refine Ok.aloadN cx d7_76 rfl 77 rfl ?_
          refine Ok.getfield cx (own_w hw 12 rfl) d7_77 F_places 80 rfl ?_
          refine Ok.iloadN cx d7_80 rfl 81 rfl ?_
          refine Ok.iloadN cx d7_81 rfl 82 rfl ?_
          refine Ok.iastore cx d7_82 A_b (nv) hnv (by simp; omega) (by first | assumption | omega) 83 rfl fun h82_ W82 G82 => ?_
          have Z0 := Nat.le_trans Z0 (Nat.le_of_eq W82.size.symm)
          have E_q := E_q.wr W82
          have F_heap := F_heap.other W82 (Or.inl (by first | assumption | (apply Ne.symm; assumption)))
          have F_places := F_places.other W82 (Or.inl (by first | assumption | (apply Ne.symm; assumption)))
          have F_gains := F_gains.other W82 (Or.inl (by first | assumption | (apply Ne.symm; assumption)))
          have F_size := F_size.other W82 (Or.inl (by first | assumption | (apply Ne.symm; assumption)))
          have A_a := A_a.other W82 (by first | assumption | (apply Ne.symm; assumption))
          have A_g := A_g.other W82 (by first | assumption | (apply Ne.symm; assumption))
          have A_b := G82
          rw [← List.map_set] at A_b
          exact Ok.vreturn cx d7_83 (by decide) (by decide) ⟨rfl, Z0, _, _, ⟨E_q, F_heap, F_places, F_gains, F_size, A_a, A_b, A_g, (by simpa using l1), (by simpa using l2), l3⟩, own_fin I_ hpS l1 hnv⟩
  exact J9 p fr _ h H P hfr hpS One.u Z0 X_ (by rw [own_setself hnd]; exact I_)
set_option maxRecDepth 65536 in
set_option maxHeartbeats 40000000 in
theorem rm_7_0 (l : Launch) (Z : State) (a0 : Array Value) (hw : ∀ d ∈ tables_1, d.before a0 Z = true) (q a b g : Addr) (fr nd : Int32) (H P : List Int32) (gs : List Int64) (sz : Int32) (nv : Nat) (h : Heap) (n0 : Nat) (Z0 : n0 ≤ h.size) (X_ : GQ Z h q a b g H P gs sz) (nqa : q ≠ a) (nqb : q ≠ b) (nqg : q ≠ g) (nab : a ≠ b) (nag : a ≠ g) (nbg : b ≠ g) (zq : n0 ≤ q) (za : n0 ≤ a) (zb : n0 ≤ b) (zg : n0 ≤ g) (hfr : fr.toInt = ((0 : Nat) : Int)) (hnd : H[0]? = some nd) (hnv : nd.toInt = (nv : Int)) (hn4 : nv < 4) :
    Does l Z (⟨"tracecut/partition/GainQueue", "up", "(I)V"⟩ : MethodName) prog_190_method_8_code 5 none ({ frames := 1, cells := 0, slots := 0, locals := 14 } : Room) #[(.ref q), (.int fr)] h n0 (fun v' h' => v' = none ∧ n0 ≤ h'.size ∧ GQ Z h' q a b g (H.set 0 nd) (P.set nv fr) gs sz) := by
  refine Does.of_body pn_7 [.val (.ref q), .val (.int fr), .unset, .unset, .unset] (fun m => by first | (simp [entryFrame, mkF, argsToLocals, Value.category]; done) | rfl) ?_
  intro W hWl cx
  subst hWl
  have cx : Cx W Z "tracecut/partition/GainQueue" "up" prog_190_method_8_code 5 none := cx
  obtain ⟨E_q, F_heap, F_places, F_gains, F_size, A_a, A_b, A_g, l1, l2, l3⟩ := X_
  refine Ok.iloadN cx d7_0 rfl 1 rfl ?_
  refine Ok.istoreN cx d7_1 rfl One.u [.val (.ref q), .val (.int fr), .val (.int fr), .unset, .unset] rfl 2 rfl ?_
  refine Ok.aloadN cx d7_2 rfl 3 rfl ?_
  refine Ok.getfield cx (own_w hw 10 rfl) d7_3 F_heap 6 rfl ?_
  refine Ok.iloadN cx d7_6 rfl 7 rfl ?_
  refine Ok.iaload cx d7_7 A_a (0) hfr (v := (.int nd)) (own_mp hnd) 8 rfl ?_
  refine Ok.istoreN cx d7_8 rfl One.u [.val (.ref q), .val (.int fr), .val (.int fr), .val (.int nd), .unset] rfl 9 rfl ?_
  refine Ok.iloadN cx d7_9 rfl 10 rfl ?_
  refine Ok.if_le cx d7_10 69 13 (by decide) rfl (fun c10 => ?_) (fun c10 => by exfalso; omega)
  refine Ok.aloadN cx d7_69 rfl 70 rfl ?_
  refine Ok.getfield cx (own_w hw 10 rfl) d7_70 F_heap 73 rfl ?_
  refine Ok.iloadN cx d7_73 rfl 74 rfl ?_
  refine Ok.iloadN cx d7_74 rfl 75 rfl ?_
  refine Ok.iastore cx d7_75 A_a (0) hfr (by simp; omega) (by first | assumption | omega) 76 rfl fun h75_ W75 G75 => ?_
  have Z0 := Nat.le_trans Z0 (Nat.le_of_eq W75.size.symm)
  have E_q := E_q.wr W75
  have F_heap := F_heap.other W75 (Or.inl (by first | assumption | (apply Ne.symm; assumption)))
  have F_places := F_places.other W75 (Or.inl (by first | assumption | (apply Ne.symm; assumption)))
  have F_gains := F_gains.other W75 (Or.inl (by first | assumption | (apply Ne.symm; assumption)))
  have F_size := F_size.other W75 (Or.inl (by first | assumption | (apply Ne.symm; assumption)))
  have A_b := A_b.other W75 (by first | assumption | (apply Ne.symm; assumption))
  have A_g := A_g.other W75 (by first | assumption | (apply Ne.symm; assumption))
  have A_a := G75
  rw [← List.map_set] at A_a
  refine Ok.aloadN cx d7_76 rfl 77 rfl ?_
  refine Ok.getfield cx (own_w hw 12 rfl) d7_77 F_places 80 rfl ?_
  refine Ok.iloadN cx d7_80 rfl 81 rfl ?_
  refine Ok.iloadN cx d7_81 rfl 82 rfl ?_
  refine Ok.iastore cx d7_82 A_b (nv) hnv (by simp; omega) (by first | assumption | omega) 83 rfl fun h82_ W82 G82 => ?_
  have Z0 := Nat.le_trans Z0 (Nat.le_of_eq W82.size.symm)
  have E_q := E_q.wr W82
  have F_heap := F_heap.other W82 (Or.inl (by first | assumption | (apply Ne.symm; assumption)))
  have F_places := F_places.other W82 (Or.inl (by first | assumption | (apply Ne.symm; assumption)))
  have F_gains := F_gains.other W82 (Or.inl (by first | assumption | (apply Ne.symm; assumption)))
  have F_size := F_size.other W82 (Or.inl (by first | assumption | (apply Ne.symm; assumption)))
  have A_a := A_a.other W82 (by first | assumption | (apply Ne.symm; assumption))
  have A_g := A_g.other W82 (by first | assumption | (apply Ne.symm; assumption))
  have A_b := G82
  rw [← List.map_set] at A_b
  exact Ok.vreturn cx d7_83 (by decide) (by decide) ⟨rfl, Z0, ⟨E_q, F_heap, F_places, F_gains, F_size, A_a, A_b, A_g, (by simpa using l1), (by simpa using l2), l3⟩⟩
theorem d6_0 : decode prog_190_method_3_code 0 = .ok (.aload_n 0, 1) := by decide +kernel
theorem d6_1 : decode prog_190_method_3_code 1 = .ok (.getfield 13, 3) := by decide +kernel
theorem d6_4 : decode prog_190_method_3_code 4 = .ok (.iload_n 1, 1) := by decide +kernel
theorem d6_5 : decode prog_190_method_3_code 5 = .ok (.iaload, 1) := by decide +kernel
theorem d6_6 : decode prog_190_method_3_code 6 = .ok (.ifCond .ge 48, 3) := by decide +kernel
theorem d6_9 : decode prog_190_method_3_code 9 = .ok (.aload_n 0, 1) := by decide +kernel
theorem d6_10 : decode prog_190_method_3_code 10 = .ok (.getfield 7, 3) := by decide +kernel
theorem d6_13 : decode prog_190_method_3_code 13 = .ok (.aload_n 0, 1) := by decide +kernel
theorem d6_14 : decode prog_190_method_3_code 14 = .ok (.getfield 26, 3) := by decide +kernel
theorem d6_17 : decode prog_190_method_3_code 17 = .ok (.iload_n 1, 1) := by decide +kernel
theorem d6_18 : decode prog_190_method_3_code 18 = .ok (.iastore, 1) := by decide +kernel
theorem d6_19 : decode prog_190_method_3_code 19 = .ok (.aload_n 0, 1) := by decide +kernel
theorem d6_20 : decode prog_190_method_3_code 20 = .ok (.getfield 13, 3) := by decide +kernel
theorem d6_23 : decode prog_190_method_3_code 23 = .ok (.iload_n 1, 1) := by decide +kernel
theorem d6_24 : decode prog_190_method_3_code 24 = .ok (.aload_n 0, 1) := by decide +kernel
theorem d6_25 : decode prog_190_method_3_code 25 = .ok (.dup, 1) := by decide +kernel
theorem d6_26 : decode prog_190_method_3_code 26 = .ok (.getfield 26, 3) := by decide +kernel
theorem d6_29 : decode prog_190_method_3_code 29 = .ok (.dup_x1, 1) := by decide +kernel
theorem d6_30 : decode prog_190_method_3_code 30 = .ok (.iconst 1, 1) := by decide +kernel
theorem d6_31 : decode prog_190_method_3_code 31 = .ok (.iadd, 1) := by decide +kernel
theorem d6_32 : decode prog_190_method_3_code 32 = .ok (.putfield 26, 3) := by decide +kernel
theorem d6_35 : decode prog_190_method_3_code 35 = .ok (.iastore, 1) := by decide +kernel
theorem d6_36 : decode prog_190_method_3_code 36 = .ok (.aload_n 0, 1) := by decide +kernel
theorem d6_37 : decode prog_190_method_3_code 37 = .ok (.getfield 16, 3) := by decide +kernel
theorem d6_40 : decode prog_190_method_3_code 40 = .ok (.iload_n 1, 1) := by decide +kernel
theorem d6_41 : decode prog_190_method_3_code 41 = .ok (.lload_n 2, 1) := by decide +kernel
theorem d6_42 : decode prog_190_method_3_code 42 = .ok (.lastore, 1) := by decide +kernel
theorem d6_43 : decode prog_190_method_3_code 43 = .ok (.aload_n 0, 1) := by decide +kernel
theorem d6_44 : decode prog_190_method_3_code 44 = .ok (.aload_n 0, 1) := by decide +kernel
theorem d6_45 : decode prog_190_method_3_code 45 = .ok (.getfield 13, 3) := by decide +kernel
theorem d6_48 : decode prog_190_method_3_code 48 = .ok (.iload_n 1, 1) := by decide +kernel
theorem d6_49 : decode prog_190_method_3_code 49 = .ok (.iaload, 1) := by decide +kernel
theorem d6_50 : decode prog_190_method_3_code 50 = .ok (.invokevirtual 30, 3) := by decide +kernel
theorem d6_53 : decode prog_190_method_3_code 53 = .ok (.return_, 1) := by decide +kernel
theorem d6_54 : decode prog_190_method_3_code 54 = .ok (.aload_n 0, 1) := by decide +kernel
theorem d6_55 : decode prog_190_method_3_code 55 = .ok (.getfield 16, 3) := by decide +kernel
theorem d6_58 : decode prog_190_method_3_code 58 = .ok (.iload_n 1, 1) := by decide +kernel
theorem d6_59 : decode prog_190_method_3_code 59 = .ok (.laload, 1) := by decide +kernel
theorem d6_60 : decode prog_190_method_3_code 60 = .ok (.lstore 4, 2) := by decide +kernel
theorem d6_62 : decode prog_190_method_3_code 62 = .ok (.aload_n 0, 1) := by decide +kernel
theorem d6_63 : decode prog_190_method_3_code 63 = .ok (.getfield 16, 3) := by decide +kernel
theorem d6_66 : decode prog_190_method_3_code 66 = .ok (.iload_n 1, 1) := by decide +kernel
theorem d6_67 : decode prog_190_method_3_code 67 = .ok (.lload_n 2, 1) := by decide +kernel
theorem d6_68 : decode prog_190_method_3_code 68 = .ok (.lastore, 1) := by decide +kernel
theorem d6_69 : decode prog_190_method_3_code 69 = .ok (.lload_n 2, 1) := by decide +kernel
theorem d6_70 : decode prog_190_method_3_code 70 = .ok (.lload 4, 2) := by decide +kernel
theorem d6_72 : decode prog_190_method_3_code 72 = .ok (.lcmp, 1) := by decide +kernel
theorem d6_73 : decode prog_190_method_3_code 73 = .ok (.ifCond .le 16, 3) := by decide +kernel
theorem d6_76 : decode prog_190_method_3_code 76 = .ok (.aload_n 0, 1) := by decide +kernel
theorem d6_77 : decode prog_190_method_3_code 77 = .ok (.aload_n 0, 1) := by decide +kernel
theorem d6_78 : decode prog_190_method_3_code 78 = .ok (.getfield 13, 3) := by decide +kernel
theorem d6_81 : decode prog_190_method_3_code 81 = .ok (.iload_n 1, 1) := by decide +kernel
theorem d6_82 : decode prog_190_method_3_code 82 = .ok (.iaload, 1) := by decide +kernel
theorem d6_83 : decode prog_190_method_3_code 83 = .ok (.invokevirtual 30, 3) := by decide +kernel
theorem d6_86 : decode prog_190_method_3_code 86 = .ok (.goto 13, 3) := by decide +kernel
theorem d6_89 : decode prog_190_method_3_code 89 = .ok (.aload_n 0, 1) := by decide +kernel
theorem d6_90 : decode prog_190_method_3_code 90 = .ok (.aload_n 0, 1) := by decide +kernel
theorem d6_91 : decode prog_190_method_3_code 91 = .ok (.getfield 13, 3) := by decide +kernel
theorem d6_94 : decode prog_190_method_3_code 94 = .ok (.iload_n 1, 1) := by decide +kernel
theorem d6_95 : decode prog_190_method_3_code 95 = .ok (.iaload, 1) := by decide +kernel
theorem d6_96 : decode prog_190_method_3_code 96 = .ok (.invokevirtual 34, 3) := by decide +kernel
theorem d6_99 : decode prog_190_method_3_code 99 = .ok (.return_, 1) := by decide +kernel
theorem pn_6 : plainFor (⟨"tracecut/partition/GainQueue", "put", "(IJ)V"⟩ : MethodName) = true := by first | exact plainFor_of_name (by first | (simp [plainName, overriddenIn]; done) | decide +kernel) | decide +kernel
theorem pd_2 : parseMethodDescriptor "(I)V" = some ⟨[.int], none⟩ := by decide +kernel
set_option maxRecDepth 65536 in
set_option maxHeartbeats 40000000 in
theorem rm_6 (l : Launch) (Z : State) (a0 : Array Value) (hw : ∀ d ∈ tables_1, d.before a0 Z = true) (q a b g : Addr) (n : Int32) (gn : Int64) (H P : List Int32) (gs : List Int64) (sz : Int32) (T S : Nat) (h : Heap) (n0 : Nat) (Z0 : n0 ≤ h.size) (X_ : GQ Z h q a b g H P gs sz) (I_ : own_I T H P S) (nqa : q ≠ a) (nqb : q ≠ b) (nqg : q ≠ g) (nab : a ≠ b) (nag : a ≠ g) (nbg : b ≠ g) (zq : n0 ≤ q) (za : n0 ≤ a) (zb : n0 ≤ b) (zg : n0 ≤ g) (hn : n.toInt = (T : Int)) (hT : T < 4) (hsz : sz.toInt = (S : Int)) :
    Does l Z (⟨"tracecut/partition/GainQueue", "put", "(IJ)V"⟩ : MethodName) prog_190_method_3_code 6 none ({ frames := 2, cells := 0, slots := 0, locals := 30 } : Room) #[(.ref q), (.int n), (.long gn)] h n0 (fun v' h' => v' = none ∧ n0 ≤ h'.size ∧ ∃ (H' P' : List Int32) (gs' : List Int64) (sz' : Int32), GQ Z h' q a b g H' P' gs' sz' ∧ own_I (T + 1) H' P' (S + 1) ∧ sz'.toInt = (S : Int) + 1) := by
  refine Does.of_body pn_6 [.val (.ref q), .val (.int n), .val (.long gn), .second, .unset, .unset] (fun m => by first | (simp [entryFrame, mkF, argsToLocals, Value.category]; done) | rfl) ?_
  intro W hWl cx
  subst hWl
  have cx : Cx W Z "tracecut/partition/GainQueue" "put" prog_190_method_3_code 6 none := cx
  have l32_1 : (1 : Int32).toInt = 1 := rfl
  have hS4 : S ≤ T := I_.1
  obtain ⟨E_q, F_heap, F_places, F_gains, F_size, A_a, A_b, A_g, l1, l2, l3⟩ := X_
  obtain ⟨x, hx⟩ := own_some (L := P) (i := T) (by omega)
  refine Ok.aloadN cx d6_0 rfl 1 rfl ?_
  refine Ok.getfield cx (own_w hw 12 rfl) d6_1 F_places 4 rfl ?_
  refine Ok.iloadN cx d6_4 rfl 5 rfl ?_
  refine Ok.iaload cx d6_5 A_b (T) hn (v := (.int x)) (own_mp hx) 6 rfl ?_
  refine Ok.if_ge cx d6_6 54 9 (by decide) rfl (fun c6 => by exfalso; have := own_neg I_ hx; omega) (fun c6 => ?_)
  refine Ok.aloadN cx d6_9 rfl 10 rfl ?_
  refine Ok.getfield cx (own_w hw 10 rfl) d6_10 F_heap 13 rfl ?_
  refine Ok.aloadN cx d6_13 rfl 14 rfl ?_
  refine Ok.getfield cx (own_w hw 26 rfl) d6_14 F_size 17 rfl ?_
  refine Ok.iloadN cx d6_17 rfl 18 rfl ?_
  refine Ok.iastore cx d6_18 A_a (S) hsz (by simp; omega) (by first | assumption | omega) 19 rfl fun h18_ W18 G18 => ?_
  have Z0 := Nat.le_trans Z0 (Nat.le_of_eq W18.size.symm)
  have E_q := E_q.wr W18
  have F_heap := F_heap.other W18 (Or.inl (by first | assumption | (apply Ne.symm; assumption)))
  have F_places := F_places.other W18 (Or.inl (by first | assumption | (apply Ne.symm; assumption)))
  have F_gains := F_gains.other W18 (Or.inl (by first | assumption | (apply Ne.symm; assumption)))
  have F_size := F_size.other W18 (Or.inl (by first | assumption | (apply Ne.symm; assumption)))
  have A_b := A_b.other W18 (by first | assumption | (apply Ne.symm; assumption))
  have A_g := A_g.other W18 (by first | assumption | (apply Ne.symm; assumption))
  have A_a := G18
  rw [← List.map_set] at A_a
  refine Ok.aloadN cx d6_19 rfl 20 rfl ?_
  refine Ok.getfield cx (own_w hw 12 rfl) d6_20 F_places 23 rfl ?_
  refine Ok.iloadN cx d6_23 rfl 24 rfl ?_
  refine Ok.aloadN cx d6_24 rfl 25 rfl ?_
  refine Ok.dup cx d6_25 rfl 26 rfl ?_
  refine Ok.getfield cx (own_w hw 26 rfl) d6_26 F_size 29 rfl ?_
  refine Ok.dupX1 cx d6_29 rfl rfl 30 rfl ?_
  refine Ok.iconst cx d6_30 31 rfl (1 : Int32) rfl ?_
  refine Ok.iadd cx d6_31 32 rfl fun t31 e31 => ?_
  have s31 := own_add e31 (by omega) (by omega)
  refine Ok.putfield cx (own_w hw 26 rfl) d6_32 F_size E_q (Or.inl (own_w hw 27 rfl)) (own_w hw 1 rfl) (ty := .int) (by decide) rfl rfl (by first | assumption | omega) 35 rfl fun h32_ W32 G32 => ?_
  have Z0 := Nat.le_trans Z0 (Nat.le_of_eq W32.size.symm)
  have E_q := E_q.wr W32
  have F_heap := F_heap.other W32 (Or.inr (slot_ne (a0 := a0) (Or.inr (own_w hw 11 rfl)) (Or.inl (own_w hw 27 rfl)) (by decide) (t := (.array .int)) (t' := .int) (by decide) (by decide)))
  have F_places := F_places.other W32 (Or.inr (slot_ne (a0 := a0) (Or.inr (own_w hw 13 rfl)) (Or.inl (own_w hw 27 rfl)) (by decide) (t := (.array .int)) (t' := .int) (by decide) (by decide)))
  have F_gains := F_gains.other W32 (Or.inr (slot_ne (a0 := a0) (Or.inr (own_w hw 16 rfl)) (Or.inl (own_w hw 27 rfl)) (by decide) (t := (.array .long)) (t' := .int) (by decide) (by decide)))
  have A_a := A_a.other W32 (by first | assumption | (apply Ne.symm; assumption))
  have A_b := A_b.other W32 (by first | assumption | (apply Ne.symm; assumption))
  have A_g := A_g.other W32 (by first | assumption | (apply Ne.symm; assumption))
  have F_size := G32
  refine Ok.iastore cx d6_35 A_b (T) hn (by simp; omega) (by first | assumption | omega) 36 rfl fun h35_ W35 G35 => ?_
  have Z0 := Nat.le_trans Z0 (Nat.le_of_eq W35.size.symm)
  have E_q := E_q.wr W35
  have F_heap := F_heap.other W35 (Or.inl (by first | assumption | (apply Ne.symm; assumption)))
  have F_places := F_places.other W35 (Or.inl (by first | assumption | (apply Ne.symm; assumption)))
  have F_gains := F_gains.other W35 (Or.inl (by first | assumption | (apply Ne.symm; assumption)))
  have F_size := F_size.other W35 (Or.inl (by first | assumption | (apply Ne.symm; assumption)))
  have A_a := A_a.other W35 (by first | assumption | (apply Ne.symm; assumption))
  have A_g := A_g.other W35 (by first | assumption | (apply Ne.symm; assumption))
  have A_b := G35
  rw [← List.map_set] at A_b
  refine Ok.aloadN cx d6_36 rfl 37 rfl ?_
  refine Ok.getfield cx (own_w hw 15 rfl) d6_37 F_gains 40 rfl ?_
  refine Ok.iloadN cx d6_40 rfl 41 rfl ?_
  refine Ok.lloadN cx d6_41 rfl 42 rfl ?_
  refine Ok.lastore cx d6_42 A_g (T) hn (by simp; omega) (by first | assumption | omega) 43 rfl fun h42_ W42 G42 => ?_
  have Z0 := Nat.le_trans Z0 (Nat.le_of_eq W42.size.symm)
  have E_q := E_q.wr W42
  have F_heap := F_heap.other W42 (Or.inl (by first | assumption | (apply Ne.symm; assumption)))
  have F_places := F_places.other W42 (Or.inl (by first | assumption | (apply Ne.symm; assumption)))
  have F_gains := F_gains.other W42 (Or.inl (by first | assumption | (apply Ne.symm; assumption)))
  have F_size := F_size.other W42 (Or.inl (by first | assumption | (apply Ne.symm; assumption)))
  have A_a := A_a.other W42 (by first | assumption | (apply Ne.symm; assumption))
  have A_b := A_b.other W42 (by first | assumption | (apply Ne.symm; assumption))
  have A_g := G42
  rw [← List.map_set] at A_g
  refine Ok.aloadN cx d6_43 rfl 44 rfl ?_
  refine Ok.aloadN cx d6_44 rfl 45 rfl ?_
  refine Ok.getfield cx (own_w hw 12 rfl) d6_45 F_places 48 rfl ?_
  refine Ok.iloadN cx d6_48 rfl 49 rfl ?_
  refine Ok.iaload cx d6_49 A_b (T) hn (v := (.int sz)) (own_mp (List.getElem?_set_self (by omega))) 50 rfl ?_
  refine Ok.callPrivate cx (y0 := (⟨"tracecut/partition/GainQueue", "clear", "()V"⟩ : MethodName)) (a := q) [(.int sz)] [] rfl (own_w hw 38 rfl) (own_w hw 39 rfl) (own_w hw 40 rfl) (own_w hw 24 rfl) rfl (own_w hw 2 rfl) (own_w hw 41 rfl) d6_50 (by decide) pd_2 rfl rfl E_q (rm_7 W.l Z a0 hw q a b g sz n (H.set S n) (P.set T sz) (gs.set T gn) t31 (T + 1) (S + 1) S T h42_ n0 Z0 ⟨E_q, F_heap, F_places, F_gains, F_size, A_a, A_b, A_g, (by simpa using l1), (by simpa using l2), (by simpa using l3)⟩ (own_put I_ hT l1 l2 hn) nqa nqb nqg nab nag nbg zq za zb zg hsz (by omega) (List.getElem?_set_self (by omega)) hn (by omega)) (by decide) 0 rfl (by decide) (by decide) (by decide) 53 rfl fun v50 h50_ q50 => ?_
  obtain ⟨rfl, Z0, H', P', X_, I_⟩ := q50
  show Ok _ _ _ _ _ _ _ _ _ []
  exact Ok.vreturn cx d6_53 (by decide) (by decide) ⟨rfl, Z0, _, _, _, _, X_, I_, by omega⟩
set_option maxRecDepth 65536 in
set_option maxHeartbeats 40000000 in
theorem rm_6_0 (l : Launch) (Z : State) (a0 : Array Value) (hw : ∀ d ∈ tables_1, d.before a0 Z = true) (q a b g : Addr) (n : Int32) (gn : Int64) (H P : List Int32) (gs : List Int64) (sz : Int32) (T S : Nat) (h : Heap) (n0 : Nat) (Z0 : n0 ≤ h.size) (X_ : GQ Z h q a b g H P gs sz) (nqa : q ≠ a) (nqb : q ≠ b) (nqg : q ≠ g) (nab : a ≠ b) (nag : a ≠ g) (nbg : b ≠ g) (zq : n0 ≤ q) (za : n0 ≤ a) (zb : n0 ≤ b) (zg : n0 ≤ g) (hall : ∀ (v : Nat) (x : Int32), P[v]? = some x → x.toInt < 0) (hn : n.toInt = (T : Int)) (hT : T < 4) (hS : S = 0) (hsz : sz.toInt = (S : Int)) :
    Does l Z (⟨"tracecut/partition/GainQueue", "put", "(IJ)V"⟩ : MethodName) prog_190_method_3_code 6 none ({ frames := 2, cells := 0, slots := 0, locals := 30 } : Room) #[(.ref q), (.int n), (.long gn)] h n0 (fun v' h' => v' = none ∧ n0 ≤ h'.size ∧ ∃ (H' P' : List Int32) (gs' : List Int64) (sz' : Int32), GQ Z h' q a b g H' P' gs' sz' ∧ sz'.toInt = 1 ∧ H'[0]? = some n ∧ ∃ x : Int32, P'[T]? = some x ∧ x.toInt = 0) := by
  refine Does.of_body pn_6 [.val (.ref q), .val (.int n), .val (.long gn), .second, .unset, .unset] (fun m => by first | (simp [entryFrame, mkF, argsToLocals, Value.category]; done) | rfl) ?_
  intro W hWl cx
  subst hWl
  have cx : Cx W Z "tracecut/partition/GainQueue" "put" prog_190_method_3_code 6 none := cx
  have l32_1 : (1 : Int32).toInt = 1 := rfl
  obtain ⟨E_q, F_heap, F_places, F_gains, F_size, A_a, A_b, A_g, l1, l2, l3⟩ := X_
  obtain ⟨x, hx⟩ := own_some (L := P) (i := T) (by omega)
  refine Ok.aloadN cx d6_0 rfl 1 rfl ?_
  refine Ok.getfield cx (own_w hw 12 rfl) d6_1 F_places 4 rfl ?_
  refine Ok.iloadN cx d6_4 rfl 5 rfl ?_
  refine Ok.iaload cx d6_5 A_b (T) hn (v := (.int x)) (own_mp hx) 6 rfl ?_
  refine Ok.if_ge cx d6_6 54 9 (by decide) rfl (fun c6 => by exfalso; have := hall T x hx; omega) (fun c6 => ?_)
  refine Ok.aloadN cx d6_9 rfl 10 rfl ?_
  refine Ok.getfield cx (own_w hw 10 rfl) d6_10 F_heap 13 rfl ?_
  refine Ok.aloadN cx d6_13 rfl 14 rfl ?_
  refine Ok.getfield cx (own_w hw 26 rfl) d6_14 F_size 17 rfl ?_
  refine Ok.iloadN cx d6_17 rfl 18 rfl ?_
  refine Ok.iastore cx d6_18 A_a (S) hsz (by simp; omega) (by first | assumption | omega) 19 rfl fun h18_ W18 G18 => ?_
  have Z0 := Nat.le_trans Z0 (Nat.le_of_eq W18.size.symm)
  have E_q := E_q.wr W18
  have F_heap := F_heap.other W18 (Or.inl (by first | assumption | (apply Ne.symm; assumption)))
  have F_places := F_places.other W18 (Or.inl (by first | assumption | (apply Ne.symm; assumption)))
  have F_gains := F_gains.other W18 (Or.inl (by first | assumption | (apply Ne.symm; assumption)))
  have F_size := F_size.other W18 (Or.inl (by first | assumption | (apply Ne.symm; assumption)))
  have A_b := A_b.other W18 (by first | assumption | (apply Ne.symm; assumption))
  have A_g := A_g.other W18 (by first | assumption | (apply Ne.symm; assumption))
  have A_a := G18
  rw [← List.map_set] at A_a
  refine Ok.aloadN cx d6_19 rfl 20 rfl ?_
  refine Ok.getfield cx (own_w hw 12 rfl) d6_20 F_places 23 rfl ?_
  refine Ok.iloadN cx d6_23 rfl 24 rfl ?_
  refine Ok.aloadN cx d6_24 rfl 25 rfl ?_
  refine Ok.dup cx d6_25 rfl 26 rfl ?_
  refine Ok.getfield cx (own_w hw 26 rfl) d6_26 F_size 29 rfl ?_
  refine Ok.dupX1 cx d6_29 rfl rfl 30 rfl ?_
  refine Ok.iconst cx d6_30 31 rfl (1 : Int32) rfl ?_
  refine Ok.iadd cx d6_31 32 rfl fun t31 e31 => ?_
  have s31 := own_add e31 (by omega) (by omega)
  refine Ok.putfield cx (own_w hw 26 rfl) d6_32 F_size E_q (Or.inl (own_w hw 27 rfl)) (own_w hw 1 rfl) (ty := .int) (by decide) rfl rfl (by first | assumption | omega) 35 rfl fun h32_ W32 G32 => ?_
  have Z0 := Nat.le_trans Z0 (Nat.le_of_eq W32.size.symm)
  have E_q := E_q.wr W32
  have F_heap := F_heap.other W32 (Or.inr (slot_ne (a0 := a0) (Or.inr (own_w hw 11 rfl)) (Or.inl (own_w hw 27 rfl)) (by decide) (t := (.array .int)) (t' := .int) (by decide) (by decide)))
  have F_places := F_places.other W32 (Or.inr (slot_ne (a0 := a0) (Or.inr (own_w hw 13 rfl)) (Or.inl (own_w hw 27 rfl)) (by decide) (t := (.array .int)) (t' := .int) (by decide) (by decide)))
  have F_gains := F_gains.other W32 (Or.inr (slot_ne (a0 := a0) (Or.inr (own_w hw 16 rfl)) (Or.inl (own_w hw 27 rfl)) (by decide) (t := (.array .long)) (t' := .int) (by decide) (by decide)))
  have A_a := A_a.other W32 (by first | assumption | (apply Ne.symm; assumption))
  have A_b := A_b.other W32 (by first | assumption | (apply Ne.symm; assumption))
  have A_g := A_g.other W32 (by first | assumption | (apply Ne.symm; assumption))
  have F_size := G32
  refine Ok.iastore cx d6_35 A_b (T) hn (by simp; omega) (by first | assumption | omega) 36 rfl fun h35_ W35 G35 => ?_
  have Z0 := Nat.le_trans Z0 (Nat.le_of_eq W35.size.symm)
  have E_q := E_q.wr W35
  have F_heap := F_heap.other W35 (Or.inl (by first | assumption | (apply Ne.symm; assumption)))
  have F_places := F_places.other W35 (Or.inl (by first | assumption | (apply Ne.symm; assumption)))
  have F_gains := F_gains.other W35 (Or.inl (by first | assumption | (apply Ne.symm; assumption)))
  have F_size := F_size.other W35 (Or.inl (by first | assumption | (apply Ne.symm; assumption)))
  have A_a := A_a.other W35 (by first | assumption | (apply Ne.symm; assumption))
  have A_g := A_g.other W35 (by first | assumption | (apply Ne.symm; assumption))
  have A_b := G35
  rw [← List.map_set] at A_b
  refine Ok.aloadN cx d6_36 rfl 37 rfl ?_
  refine Ok.getfield cx (own_w hw 15 rfl) d6_37 F_gains 40 rfl ?_
  refine Ok.iloadN cx d6_40 rfl 41 rfl ?_
  refine Ok.lloadN cx d6_41 rfl 42 rfl ?_
  refine Ok.lastore cx d6_42 A_g (T) hn (by simp; omega) (by first | assumption | omega) 43 rfl fun h42_ W42 G42 => ?_
  have Z0 := Nat.le_trans Z0 (Nat.le_of_eq W42.size.symm)
  have E_q := E_q.wr W42
  have F_heap := F_heap.other W42 (Or.inl (by first | assumption | (apply Ne.symm; assumption)))
  have F_places := F_places.other W42 (Or.inl (by first | assumption | (apply Ne.symm; assumption)))
  have F_gains := F_gains.other W42 (Or.inl (by first | assumption | (apply Ne.symm; assumption)))
  have F_size := F_size.other W42 (Or.inl (by first | assumption | (apply Ne.symm; assumption)))
  have A_a := A_a.other W42 (by first | assumption | (apply Ne.symm; assumption))
  have A_b := A_b.other W42 (by first | assumption | (apply Ne.symm; assumption))
  have A_g := G42
  rw [← List.map_set] at A_g
  refine Ok.aloadN cx d6_43 rfl 44 rfl ?_
  refine Ok.aloadN cx d6_44 rfl 45 rfl ?_
  refine Ok.getfield cx (own_w hw 12 rfl) d6_45 F_places 48 rfl ?_
  refine Ok.iloadN cx d6_48 rfl 49 rfl ?_
  refine Ok.iaload cx d6_49 A_b (T) hn (v := (.int sz)) (own_mp (List.getElem?_set_self (by omega))) 50 rfl ?_
  refine Ok.callPrivate cx (y0 := (⟨"tracecut/partition/GainQueue", "clear", "()V"⟩ : MethodName)) (a := q) [(.int sz)] [] rfl (own_w hw 38 rfl) (own_w hw 39 rfl) (own_w hw 40 rfl) (own_w hw 24 rfl) rfl (own_w hw 2 rfl) (own_w hw 41 rfl) d6_50 (by decide) pd_2 rfl rfl E_q (rm_7_0 W.l Z a0 hw q a b g sz n (H.set S n) (P.set T sz) (gs.set T gn) t31 T h42_ n0 Z0 ⟨E_q, F_heap, F_places, F_gains, F_size, A_a, A_b, A_g, (by simpa using l1), (by simpa using l2), (by simpa using l3)⟩ nqa nqb nqg nab nag nbg zq za zb zg (by subst hS; exact hsz) (by subst hS; exact List.getElem?_set_self (by omega)) hn hT) (by decide) 0 rfl (by decide) (by decide) (by decide) 53 rfl fun v50 h50_ q50 => ?_
  obtain ⟨rfl, Z0, X_⟩ := q50
  show Ok _ _ _ _ _ _ _ _ _ []
  exact Ok.vreturn cx d6_53 (by decide) (by decide) ⟨rfl, Z0, _, _, _, _, X_, by omega, by subst hS; exact List.getElem?_set_self (by simp; omega), sz, List.getElem?_set_self (by simp; omega), by omega⟩
theorem d4_0 : decode prog_190_method_6_code 0 = .ok (.iconst 0, 1) := by decide +kernel
theorem d4_1 : decode prog_190_method_6_code 1 = .ok (.istore_n 1, 1) := by decide +kernel
theorem d4_2 : decode prog_190_method_6_code 2 = .ok (.iload_n 1, 1) := by decide +kernel
theorem d4_3 : decode prog_190_method_6_code 3 = .ok (.aload_n 0, 1) := by decide +kernel
theorem d4_4 : decode prog_190_method_6_code 4 = .ok (.getfield 26, 3) := by decide +kernel
theorem d4_7 : decode prog_190_method_6_code 7 = .ok (.if_icmp .ge 21, 3) := by decide +kernel
theorem d4_10 : decode prog_190_method_6_code 10 = .ok (.aload_n 0, 1) := by decide +kernel
theorem d4_11 : decode prog_190_method_6_code 11 = .ok (.getfield 13, 3) := by decide +kernel
theorem d4_14 : decode prog_190_method_6_code 14 = .ok (.aload_n 0, 1) := by decide +kernel
theorem d4_15 : decode prog_190_method_6_code 15 = .ok (.getfield 7, 3) := by decide +kernel
theorem d4_18 : decode prog_190_method_6_code 18 = .ok (.iload_n 1, 1) := by decide +kernel
theorem d4_19 : decode prog_190_method_6_code 19 = .ok (.iaload, 1) := by decide +kernel
theorem d4_20 : decode prog_190_method_6_code 20 = .ok (.iconst (-1), 1) := by decide +kernel
theorem d4_21 : decode prog_190_method_6_code 21 = .ok (.iastore, 1) := by decide +kernel
theorem d4_22 : decode prog_190_method_6_code 22 = .ok (.iinc 1 1, 3) := by decide +kernel
theorem d4_25 : decode prog_190_method_6_code 25 = .ok (.goto (-23), 3) := by decide +kernel
theorem d4_28 : decode prog_190_method_6_code 28 = .ok (.aload_n 0, 1) := by decide +kernel
theorem d4_29 : decode prog_190_method_6_code 29 = .ok (.iconst 0, 1) := by decide +kernel
theorem d4_30 : decode prog_190_method_6_code 30 = .ok (.putfield 26, 3) := by decide +kernel
theorem d4_33 : decode prog_190_method_6_code 33 = .ok (.return_, 1) := by decide +kernel
theorem pn_4 : plainFor (⟨"tracecut/partition/GainQueue", "clear", "()V"⟩ : MethodName) = true := by first | exact plainFor_of_name (by first | (simp [plainName, overriddenIn]; done) | decide +kernel) | decide +kernel
set_option maxRecDepth 65536 in
set_option maxHeartbeats 40000000 in
theorem rm_4 (l : Launch) (Z : State) (a0 : Array Value) (hw : ∀ d ∈ tables_1, d.before a0 Z = true) (q a b g : Addr) (H P : List Int32) (gs : List Int64) (sz : Int32) (T S : Nat) (h : Heap) (n0 : Nat) (Z0 : n0 ≤ h.size) (X_ : GQ Z h q a b g H P gs sz) (I_ : own_I T H P S) (nqa : q ≠ a) (nqb : q ≠ b) (nqg : q ≠ g) (nab : a ≠ b) (nag : a ≠ g) (nbg : b ≠ g) (zq : n0 ≤ q) (za : n0 ≤ a) (zb : n0 ≤ b) (zg : n0 ≤ g) (hsz : sz.toInt = (S : Int)) :
    Does l Z (⟨"tracecut/partition/GainQueue", "clear", "()V"⟩ : MethodName) prog_190_method_6_code 2 none ({ frames := 0, cells := 0, slots := 0, locals := 0 } : Room) #[(.ref q)] h n0 (fun v' h' => v' = none ∧ n0 ≤ h'.size ∧ ∃ P' : List Int32, GQ Z h' q a b g H P' gs 0 ∧ ∀ (v : Nat) (x : Int32), P'[v]? = some x → x.toInt < 0) := by
  refine Does.of_body pn_4 [.val (.ref q), .unset] (fun m => by first | (simp [entryFrame, mkF, argsToLocals, Value.category]; done) | rfl) ?_
  intro W hWl cx
  subst hWl
  have cx : Cx W Z "tracecut/partition/GainQueue" "clear" prog_190_method_6_code 2 none := cx
  have l32_0 : (0 : Int32).toInt = 0 := rfl
  have l32_m1 : (-1 : Int32).toInt = -1 := rfl
  have l32_1 : (1 : Int32).toInt = 1 := rfl
  have hS4 : S ≤ 4 := by have := I_.1; have := I_.2.1; omega
  refine Ok.iconst cx d4_0 1 rfl (0 : Int32) rfl ?_
  refine Ok.istoreN cx d4_1 rfl One.u [.val (.ref q), .val (.int (0 : Int32))] rfl 2 rfl ?_
  have J2 : ∀ (k i : Nat) (i1 : Int32) (hh : Heap) (P : List Int32), i + k = S → i1.toInt = (i : Int) → n0 ≤ hh.size → GQ Z hh q a b g H P gs sz → (∀ (v : Nat) (x : Int32), P[v]? = some x → 0 ≤ x.toInt → ∃ (j : Nat) (z : Int32), i ≤ j ∧ j < S ∧ H[j]? = some z ∧ z.toInt = ((v : Nat) : Int)) → Ok W ({ frames := 0, cells := 0, slots := 0, locals := 0 } : Room) n0 (fun v' h' => v' = none ∧ n0 ≤ h'.size ∧ ∃ P' : List Int32, GQ Z h' q a b g H P' gs 0 ∧ ∀ (v : Nat) (x : Int32), P'[v]? = some x → x.toInt < 0) hh 0 0 2 [.val (.ref q), .val (.int i1)] [] := by
    intro k
    induction k with
    | zero =>
      intro i i1 hh P hk hi Z0 X_ hall
      obtain ⟨E_q, F_heap, F_places, F_gains, F_size, A_a, A_b, A_g, l1, l2, l3⟩ := X_
      refine Ok.iloadN cx d4_2 rfl 3 rfl ?_
      refine Ok.aloadN cx d4_3 rfl 4 rfl ?_
      refine Ok.getfield cx (own_w hw 26 rfl) d4_4 F_size 7 rfl ?_
      refine Ok.icmp_ge cx d4_7 28 10 (by decide) rfl (fun c7 => ?_) (fun c7 => by exfalso; omega)
      refine Ok.aloadN cx d4_28 rfl 29 rfl ?_
      refine Ok.iconst cx d4_29 30 rfl (0 : Int32) rfl ?_
      refine Ok.putfield cx (own_w hw 26 rfl) d4_30 F_size E_q (Or.inl (own_w hw 27 rfl)) (own_w hw 1 rfl) (ty := .int) (by decide) rfl rfl (by first | assumption | omega) 33 rfl fun h30_ W30 G30 => ?_
      have Z0 := Nat.le_trans Z0 (Nat.le_of_eq W30.size.symm)
      have E_q := E_q.wr W30
      have F_heap := F_heap.other W30 (Or.inr (slot_ne (a0 := a0) (Or.inr (own_w hw 11 rfl)) (Or.inl (own_w hw 27 rfl)) (by decide) (t := (.array .int)) (t' := .int) (by decide) (by decide)))
      have F_places := F_places.other W30 (Or.inr (slot_ne (a0 := a0) (Or.inr (own_w hw 13 rfl)) (Or.inl (own_w hw 27 rfl)) (by decide) (t := (.array .int)) (t' := .int) (by decide) (by decide)))
      have F_gains := F_gains.other W30 (Or.inr (slot_ne (a0 := a0) (Or.inr (own_w hw 16 rfl)) (Or.inl (own_w hw 27 rfl)) (by decide) (t := (.array .long)) (t' := .int) (by decide) (by decide)))
      have A_a := A_a.other W30 (by first | assumption | (apply Ne.symm; assumption))
      have A_b := A_b.other W30 (by first | assumption | (apply Ne.symm; assumption))
      have A_g := A_g.other W30 (by first | assumption | (apply Ne.symm; assumption))
      have F_size := G30
      exact Ok.vreturn cx d4_33 (by decide) (by decide) ⟨rfl, Z0, _, ⟨E_q, F_heap, F_places, F_gains, F_size, A_a, A_b, A_g, l1, l2, l3⟩, fun v x hx => by rcases Int.lt_or_le x.toInt 0 with q9 | q9; exact q9; obtain ⟨j, z, q1, q2, -⟩ := hall v x hx q9; omega⟩
    | succ k ih =>
      intro i i1 hh P hk hi Z0 X_ hall
      obtain ⟨E_q, F_heap, F_places, F_gains, F_size, A_a, A_b, A_g, l1, l2, l3⟩ := X_
      refine Ok.iloadN cx d4_2 rfl 3 rfl ?_
      refine Ok.aloadN cx d4_3 rfl 4 rfl ?_
      refine Ok.getfield cx (own_w hw 26 rfl) d4_4 F_size 7 rfl ?_
      refine Ok.icmp_ge cx d4_7 28 10 (by decide) rfl (fun c7 => by exfalso; omega) (fun c7 => ?_)
      obtain ⟨y, yv, hy, hyv, hyT⟩ := I_.2.2.1 i (by omega)
      have hT4 := I_.2.1
      refine Ok.aloadN cx d4_10 rfl 11 rfl ?_
      refine Ok.getfield cx (own_w hw 12 rfl) d4_11 F_places 14 rfl ?_
      refine Ok.aloadN cx d4_14 rfl 15 rfl ?_
      refine Ok.getfield cx (own_w hw 10 rfl) d4_15 F_heap 18 rfl ?_
      refine Ok.iloadN cx d4_18 rfl 19 rfl ?_
      refine Ok.iaload cx d4_19 A_a (i) hi (v := (.int y)) (own_mp hy) 20 rfl ?_
      refine Ok.iconst cx d4_20 21 rfl (-1 : Int32) rfl ?_
      refine Ok.iastore cx d4_21 A_b (yv) hyv (by simp; omega) (by first | assumption | omega) 22 rfl fun h21_ W21 G21 => ?_
      have Z0 := Nat.le_trans Z0 (Nat.le_of_eq W21.size.symm)
      have E_q := E_q.wr W21
      have F_heap := F_heap.other W21 (Or.inl (by first | assumption | (apply Ne.symm; assumption)))
      have F_places := F_places.other W21 (Or.inl (by first | assumption | (apply Ne.symm; assumption)))
      have F_gains := F_gains.other W21 (Or.inl (by first | assumption | (apply Ne.symm; assumption)))
      have F_size := F_size.other W21 (Or.inl (by first | assumption | (apply Ne.symm; assumption)))
      have A_a := A_a.other W21 (by first | assumption | (apply Ne.symm; assumption))
      have A_g := A_g.other W21 (by first | assumption | (apply Ne.symm; assumption))
      have A_b := G21
      rw [← List.map_set] at A_b
      refine Ok.iinc cx d4_22 rfl (1 : Int32) rfl (fun y => [.val (.ref q), .val (.int y)]) (fun _ => rfl) 25 rfl fun t22 e22 => ?_
      have s22 := own_add e22 (by omega) (by omega)
      refine Ok.goto cx d4_25 2 (by decide) ?_
      exact ih (i + 1) t22 h21_ _ (by omega) (by omega) Z0 ⟨E_q, F_heap, F_places, F_gains, F_size, A_a, A_b, A_g, l1, (by simpa using l2), l3⟩ (own_clr hall hy hyv (by omega))
  exact J2 S 0 0 h P (by omega) rfl Z0 X_ (fun v x hx hx0 => by obtain ⟨i, y, q1, q2, q3⟩ := I_.2.2.2 v x hx hx0; exact ⟨i, y, Nat.zero_le _, q1, q2, q3⟩)
theorem d9_0 : decode prog_190_method_4_code 0 = .ok (.aload_n 0, 1) := by decide +kernel
theorem d9_1 : decode prog_190_method_4_code 1 = .ok (.getfield 13, 3) := by decide +kernel
theorem d9_4 : decode prog_190_method_4_code 4 = .ok (.iload_n 1, 1) := by decide +kernel
theorem d9_5 : decode prog_190_method_4_code 5 = .ok (.iaload, 1) := by decide +kernel
theorem d9_6 : decode prog_190_method_4_code 6 = .ok (.istore_n 2, 1) := by decide +kernel
theorem d9_7 : decode prog_190_method_4_code 7 = .ok (.iload_n 2, 1) := by decide +kernel
theorem d9_8 : decode prog_190_method_4_code 8 = .ok (.ifCond .ge 4, 3) := by decide +kernel
theorem d9_11 : decode prog_190_method_4_code 11 = .ok (.return_, 1) := by decide +kernel
theorem d9_12 : decode prog_190_method_4_code 12 = .ok (.aload_n 0, 1) := by decide +kernel
theorem d9_13 : decode prog_190_method_4_code 13 = .ok (.getfield 13, 3) := by decide +kernel
theorem d9_16 : decode prog_190_method_4_code 16 = .ok (.iload_n 1, 1) := by decide +kernel
theorem d9_17 : decode prog_190_method_4_code 17 = .ok (.iconst (-1), 1) := by decide +kernel
theorem d9_18 : decode prog_190_method_4_code 18 = .ok (.iastore, 1) := by decide +kernel
theorem d9_19 : decode prog_190_method_4_code 19 = .ok (.aload_n 0, 1) := by decide +kernel
theorem d9_20 : decode prog_190_method_4_code 20 = .ok (.dup, 1) := by decide +kernel
theorem d9_21 : decode prog_190_method_4_code 21 = .ok (.getfield 26, 3) := by decide +kernel
theorem d9_24 : decode prog_190_method_4_code 24 = .ok (.iconst 1, 1) := by decide +kernel
theorem d9_25 : decode prog_190_method_4_code 25 = .ok (.isub, 1) := by decide +kernel
theorem d9_26 : decode prog_190_method_4_code 26 = .ok (.putfield 26, 3) := by decide +kernel
theorem d9_29 : decode prog_190_method_4_code 29 = .ok (.iload_n 2, 1) := by decide +kernel
theorem d9_30 : decode prog_190_method_4_code 30 = .ok (.aload_n 0, 1) := by decide +kernel
theorem d9_31 : decode prog_190_method_4_code 31 = .ok (.getfield 26, 3) := by decide +kernel
theorem d9_34 : decode prog_190_method_4_code 34 = .ok (.if_icmp .ne 4, 3) := by decide +kernel
theorem d9_37 : decode prog_190_method_4_code 37 = .ok (.return_, 1) := by decide +kernel
theorem d9_38 : decode prog_190_method_4_code 38 = .ok (.aload_n 0, 1) := by decide +kernel
theorem d9_39 : decode prog_190_method_4_code 39 = .ok (.getfield 7, 3) := by decide +kernel
theorem d9_42 : decode prog_190_method_4_code 42 = .ok (.aload_n 0, 1) := by decide +kernel
theorem d9_43 : decode prog_190_method_4_code 43 = .ok (.getfield 26, 3) := by decide +kernel
theorem d9_46 : decode prog_190_method_4_code 46 = .ok (.iaload, 1) := by decide +kernel
theorem d9_47 : decode prog_190_method_4_code 47 = .ok (.istore_n 3, 1) := by decide +kernel
theorem d9_48 : decode prog_190_method_4_code 48 = .ok (.aload_n 0, 1) := by decide +kernel
theorem d9_49 : decode prog_190_method_4_code 49 = .ok (.getfield 7, 3) := by decide +kernel
theorem d9_52 : decode prog_190_method_4_code 52 = .ok (.iload_n 2, 1) := by decide +kernel
theorem d9_53 : decode prog_190_method_4_code 53 = .ok (.iload_n 3, 1) := by decide +kernel
theorem d9_54 : decode prog_190_method_4_code 54 = .ok (.iastore, 1) := by decide +kernel
theorem d9_55 : decode prog_190_method_4_code 55 = .ok (.aload_n 0, 1) := by decide +kernel
theorem d9_56 : decode prog_190_method_4_code 56 = .ok (.getfield 13, 3) := by decide +kernel
theorem d9_59 : decode prog_190_method_4_code 59 = .ok (.iload_n 3, 1) := by decide +kernel
theorem d9_60 : decode prog_190_method_4_code 60 = .ok (.iload_n 2, 1) := by decide +kernel
theorem d9_61 : decode prog_190_method_4_code 61 = .ok (.iastore, 1) := by decide +kernel
theorem d9_62 : decode prog_190_method_4_code 62 = .ok (.aload_n 0, 1) := by decide +kernel
theorem d9_63 : decode prog_190_method_4_code 63 = .ok (.iload_n 2, 1) := by decide +kernel
theorem d9_64 : decode prog_190_method_4_code 64 = .ok (.invokevirtual 30, 3) := by decide +kernel
theorem d9_67 : decode prog_190_method_4_code 67 = .ok (.aload_n 0, 1) := by decide +kernel
theorem d9_68 : decode prog_190_method_4_code 68 = .ok (.aload_n 0, 1) := by decide +kernel
theorem d9_69 : decode prog_190_method_4_code 69 = .ok (.getfield 13, 3) := by decide +kernel
theorem d9_72 : decode prog_190_method_4_code 72 = .ok (.iload_n 3, 1) := by decide +kernel
theorem d9_73 : decode prog_190_method_4_code 73 = .ok (.iaload, 1) := by decide +kernel
theorem d9_74 : decode prog_190_method_4_code 74 = .ok (.invokevirtual 34, 3) := by decide +kernel
theorem d9_77 : decode prog_190_method_4_code 77 = .ok (.return_, 1) := by decide +kernel
theorem pn_9 : plainFor (⟨"tracecut/partition/GainQueue", "remove", "(I)V"⟩ : MethodName) = true := by first | exact plainFor_of_name (by first | (simp [plainName, overriddenIn]; done) | decide +kernel) | decide +kernel
set_option maxRecDepth 65536 in
set_option maxHeartbeats 40000000 in
theorem rm_9 (l : Launch) (Z : State) (a0 : Array Value) (hw : ∀ d ∈ tables_1, d.before a0 Z = true) (q a b g : Addr) (n x : Int32) (H P : List Int32) (gs : List Int64) (sz : Int32) (T : Nat) (h : Heap) (n0 : Nat) (Z0 : n0 ≤ h.size) (X_ : GQ Z h q a b g H P gs sz) (nqa : q ≠ a) (nqb : q ≠ b) (nqg : q ≠ g) (nab : a ≠ b) (nag : a ≠ g) (nbg : b ≠ g) (zq : n0 ≤ q) (za : n0 ≤ a) (zb : n0 ≤ b) (zg : n0 ≤ g) (hn : n.toInt = (T : Int)) (hT : T < 4) (hx : P[T]? = some x) (hx0 : x.toInt = 0) (hsz : sz.toInt = 1) :
    Does l Z (⟨"tracecut/partition/GainQueue", "remove", "(I)V"⟩ : MethodName) prog_190_method_4_code 4 none ({ frames := 0, cells := 0, slots := 0, locals := 0 } : Room) #[(.ref q), (.int n)] h n0 (fun v' h' => v' = none ∧ n0 ≤ h'.size ∧ ∃ (P' : List Int32) (sz' : Int32), GQ Z h' q a b g H P' gs sz' ∧ sz'.toInt = 0) := by
  refine Does.of_body pn_9 [.val (.ref q), .val (.int n), .unset, .unset] (fun m => by first | (simp [entryFrame, mkF, argsToLocals, Value.category]; done) | rfl) ?_
  intro W hWl cx
  subst hWl
  have cx : Cx W Z "tracecut/partition/GainQueue" "remove" prog_190_method_4_code 4 none := cx
  have l32_m1 : (-1 : Int32).toInt = -1 := rfl
  have l32_1 : (1 : Int32).toInt = 1 := rfl
  obtain ⟨E_q, F_heap, F_places, F_gains, F_size, A_a, A_b, A_g, l1, l2, l3⟩ := X_
  refine Ok.aloadN cx d9_0 rfl 1 rfl ?_
  refine Ok.getfield cx (own_w hw 12 rfl) d9_1 F_places 4 rfl ?_
  refine Ok.iloadN cx d9_4 rfl 5 rfl ?_
  refine Ok.iaload cx d9_5 A_b (T) hn (v := (.int x)) (own_mp hx) 6 rfl ?_
  refine Ok.istoreN cx d9_6 rfl One.u [.val (.ref q), .val (.int n), .val (.int x), .unset] rfl 7 rfl ?_
  refine Ok.iloadN cx d9_7 rfl 8 rfl ?_
  refine Ok.if_ge cx d9_8 12 11 (by decide) rfl (fun c8 => ?_) (fun c8 => by exfalso; omega)
  refine Ok.aloadN cx d9_12 rfl 13 rfl ?_
  refine Ok.getfield cx (own_w hw 12 rfl) d9_13 F_places 16 rfl ?_
  refine Ok.iloadN cx d9_16 rfl 17 rfl ?_
  refine Ok.iconst cx d9_17 18 rfl (-1 : Int32) rfl ?_
  refine Ok.iastore cx d9_18 A_b (T) hn (by simp; omega) (by first | assumption | omega) 19 rfl fun h18_ W18 G18 => ?_
  have Z0 := Nat.le_trans Z0 (Nat.le_of_eq W18.size.symm)
  have E_q := E_q.wr W18
  have F_heap := F_heap.other W18 (Or.inl (by first | assumption | (apply Ne.symm; assumption)))
  have F_places := F_places.other W18 (Or.inl (by first | assumption | (apply Ne.symm; assumption)))
  have F_gains := F_gains.other W18 (Or.inl (by first | assumption | (apply Ne.symm; assumption)))
  have F_size := F_size.other W18 (Or.inl (by first | assumption | (apply Ne.symm; assumption)))
  have A_a := A_a.other W18 (by first | assumption | (apply Ne.symm; assumption))
  have A_g := A_g.other W18 (by first | assumption | (apply Ne.symm; assumption))
  have A_b := G18
  rw [← List.map_set] at A_b
  refine Ok.aloadN cx d9_19 rfl 20 rfl ?_
  refine Ok.dup cx d9_20 rfl 21 rfl ?_
  refine Ok.getfield cx (own_w hw 26 rfl) d9_21 F_size 24 rfl ?_
  refine Ok.iconst cx d9_24 25 rfl (1 : Int32) rfl ?_
  refine Ok.isub cx d9_25 26 rfl fun t25 e25 => ?_
  have s25 := own_sub e25 (by omega) (by omega)
  refine Ok.putfield cx (own_w hw 26 rfl) d9_26 F_size E_q (Or.inl (own_w hw 27 rfl)) (own_w hw 1 rfl) (ty := .int) (by decide) rfl rfl (by first | assumption | omega) 29 rfl fun h26_ W26 G26 => ?_
  have Z0 := Nat.le_trans Z0 (Nat.le_of_eq W26.size.symm)
  have E_q := E_q.wr W26
  have F_heap := F_heap.other W26 (Or.inr (slot_ne (a0 := a0) (Or.inr (own_w hw 11 rfl)) (Or.inl (own_w hw 27 rfl)) (by decide) (t := (.array .int)) (t' := .int) (by decide) (by decide)))
  have F_places := F_places.other W26 (Or.inr (slot_ne (a0 := a0) (Or.inr (own_w hw 13 rfl)) (Or.inl (own_w hw 27 rfl)) (by decide) (t := (.array .int)) (t' := .int) (by decide) (by decide)))
  have F_gains := F_gains.other W26 (Or.inr (slot_ne (a0 := a0) (Or.inr (own_w hw 16 rfl)) (Or.inl (own_w hw 27 rfl)) (by decide) (t := (.array .long)) (t' := .int) (by decide) (by decide)))
  have A_a := A_a.other W26 (by first | assumption | (apply Ne.symm; assumption))
  have A_b := A_b.other W26 (by first | assumption | (apply Ne.symm; assumption))
  have A_g := A_g.other W26 (by first | assumption | (apply Ne.symm; assumption))
  have F_size := G26
  refine Ok.iloadN cx d9_29 rfl 30 rfl ?_
  refine Ok.aloadN cx d9_30 rfl 31 rfl ?_
  refine Ok.getfield cx (own_w hw 26 rfl) d9_31 F_size 34 rfl ?_
  refine Ok.icmp_ne cx d9_34 38 37 (by decide) rfl (fun c34 => by exfalso; omega) (fun c34 => ?_)
  exact Ok.vreturn cx d9_37 (by decide) (by decide) ⟨rfl, Z0, _, _, ⟨E_q, F_heap, F_places, F_gains, F_size, A_a, A_b, A_g, l1, (by simpa using l2), l3⟩, by omega⟩
theorem d8_0 : decode prog_190_method_5_code 0 = .ok (.aload_n 0, 1) := by decide +kernel
theorem d8_1 : decode prog_190_method_5_code 1 = .ok (.getfield 7, 3) := by decide +kernel
theorem d8_4 : decode prog_190_method_5_code 4 = .ok (.iconst 0, 1) := by decide +kernel
theorem d8_5 : decode prog_190_method_5_code 5 = .ok (.iaload, 1) := by decide +kernel
theorem d8_6 : decode prog_190_method_5_code 6 = .ok (.istore_n 1, 1) := by decide +kernel
theorem d8_7 : decode prog_190_method_5_code 7 = .ok (.aload_n 0, 1) := by decide +kernel
theorem d8_8 : decode prog_190_method_5_code 8 = .ok (.iload_n 1, 1) := by decide +kernel
theorem d8_9 : decode prog_190_method_5_code 9 = .ok (.invokevirtual 37, 3) := by decide +kernel
theorem d8_12 : decode prog_190_method_5_code 12 = .ok (.iload_n 1, 1) := by decide +kernel
theorem d8_13 : decode prog_190_method_5_code 13 = .ok (.ireturn, 1) := by decide +kernel
theorem pn_8 : plainFor (⟨"tracecut/partition/GainQueue", "poll", "()I"⟩ : MethodName) = true := by first | exact plainFor_of_name (by first | (simp [plainName, overriddenIn]; done) | decide +kernel) | decide +kernel
set_option maxRecDepth 65536 in
set_option maxHeartbeats 40000000 in
theorem rm_8 (l : Launch) (Z : State) (a0 : Array Value) (hw : ∀ d ∈ tables_1, d.before a0 Z = true) (q a b g : Addr) (n x : Int32) (H P : List Int32) (gs : List Int64) (sz : Int32) (T : Nat) (h : Heap) (n0 : Nat) (Z0 : n0 ≤ h.size) (X_ : GQ Z h q a b g H P gs sz) (nqa : q ≠ a) (nqb : q ≠ b) (nqg : q ≠ g) (nab : a ≠ b) (nag : a ≠ g) (nbg : b ≠ g) (zq : n0 ≤ q) (za : n0 ≤ a) (zb : n0 ≤ b) (zg : n0 ≤ g) (hn : n.toInt = (T : Int)) (hT : T < 4) (hH0 : H[0]? = some n) (hx : P[T]? = some x) (hx0 : x.toInt = 0) (hsz : sz.toInt = 1) :
    Does l Z (⟨"tracecut/partition/GainQueue", "poll", "()I"⟩ : MethodName) prog_190_method_5_code 2 (some .int) ({ frames := 1, cells := 0, slots := 0, locals := 15 } : Room) #[(.ref q)] h n0 (fun v' h' => v' = some (.int n) ∧ n0 ≤ h'.size ∧ ∃ (P' : List Int32) (sz' : Int32), GQ Z h' q a b g H P' gs sz' ∧ sz'.toInt = 0) := by
  refine Does.of_body pn_8 [.val (.ref q), .unset] (fun m => by first | (simp [entryFrame, mkF, argsToLocals, Value.category]; done) | rfl) ?_
  intro W hWl cx
  subst hWl
  have cx : Cx W Z "tracecut/partition/GainQueue" "poll" prog_190_method_5_code 2 (some .int) := cx
  have l32_0 : (0 : Int32).toInt = 0 := rfl
  have X0_ := X_
  obtain ⟨E_q, F_heap, F_places, F_gains, F_size, A_a, A_b, A_g, l1, l2, l3⟩ := X_
  have X_ := X0_
  refine Ok.aloadN cx d8_0 rfl 1 rfl ?_
  refine Ok.getfield cx (own_w hw 10 rfl) d8_1 F_heap 4 rfl ?_
  refine Ok.iconst cx d8_4 5 rfl (0 : Int32) rfl ?_
  refine Ok.iaload cx d8_5 A_a (0) rfl (v := (.int n)) (own_mp hH0) 6 rfl ?_
  refine Ok.istoreN cx d8_6 rfl One.u [.val (.ref q), .val (.int n)] rfl 7 rfl ?_
  refine Ok.aloadN cx d8_7 rfl 8 rfl ?_
  refine Ok.iloadN cx d8_8 rfl 9 rfl ?_
  refine Ok.callVirtual cx (a := q) [(.int n)] [] rfl (own_w hw 47 rfl) (own_w hw 48 rfl) (own_w hw 50 rfl) (own_w hw 49 rfl) (own_w hw 2 rfl) (own_w hw 51 rfl) d8_9 (by decide) pd_2 rfl rfl E_q (rm_9 W.l Z a0 hw q a b g n x H P gs sz T h n0 Z0 X_ nqa nqb nqg nab nag nbg zq za zb zg hn hT hx hx0 hsz) (by decide) 0 rfl (by decide) (by decide) (by decide) 12 rfl fun v9 h9_ q9 => ?_
  obtain ⟨rfl, Z0, P', sz', X_, hz⟩ := q9
  show Ok _ _ _ _ _ _ _ _ _ []
  refine Ok.iloadN cx d8_12 rfl 13 rfl ?_
  exact Ok.ireturn cx d8_13 (by decide) (by decide) ⟨rfl, Z0, _, _, X_, hz⟩
theorem pn_0 : plainFor x = true := by first | exact plainFor_of_name (by first | (simp [plainName, overriddenIn]; done) | decide +kernel) | decide +kernel
theorem pd_3 : parseMethodDescriptor "()V" = some ⟨[], none⟩ := by decide +kernel
theorem pd_4 : parseMethodDescriptor "()Z" = some ⟨[], some .boolean⟩ := by decide +kernel
theorem pd_5 : parseMethodDescriptor "(IJ)V" = some ⟨[.int, .long], none⟩ := by decide +kernel
theorem pd_6 : parseMethodDescriptor "()I" = some ⟨[], some .int⟩ := by decide +kernel
set_option maxRecDepth 65536 in
set_option maxHeartbeats 40000000 in
theorem rm_0 (l : Launch) (Z : State) (a0 : Array Value) (hw : ∀ d ∈ tables_1, d.before a0 Z = true) (p0 : Int32) (p1 p2 p3 : Int64) (p4 : Int32) (p5 : Int64) (h : Heap) (n0 : Nat) (Z0 : n0 ≤ h.size)  :
    DoesW l Z x code maxLocals ret room_1 tables_1 #[(.int p0), (.long p1), (.long p2), (.long p3), (.int p4), (.long p5)] h n0 (fun v _ => v = some (.int 1)) := by
  refine DoesW.of_body pn_0 [.val (.int p0), .val (.long p1), .second, .val (.long p2), .second, .val (.long p3), .second, .val (.int p4), .val (.long p5), .second, .unset, .unset, .unset] (fun m => by first | (simp [entryFrame, mkF, argsToLocals, Value.category, maxLocals]; done) | rfl) ?_
  intro W hWl cx
  subst hWl
  have cx : Cx W Z "tracecut/partition/GainQueueClearPinLaw" "law" code 13 (some .boolean) := cx
  have lz1 : ((1 : Int32) &&& 1).toInt = 1 := rfl
  have lz0 : ((0 : Int32) &&& 1).toInt = 0 := rfl
  have l32_1 : (1 : Int32).toInt = 1 := rfl
  have l32_0 : (0 : Int32).toInt = 0 := rfl
  have l32_3 : (3 : Int32).toInt = 3 := rfl
  refine Ok.new cx (own_w hw 0 rfl) (own_w hw 1 rfl) (own_w hw 2 rfl) at_0 (by decide) (by decide) 3 rfl fun h0_ q g0 E0 X0 D0 => ?_
  have zq : n0 ≤ q := by rw [g0]; exact Z0
  have Z0 := Nat.le_trans Z0 E0.1
  have Fq_heap : Fld Z h0_ q "tracecut/partition/GainQueue" "heap" "[I" .null := D0 (Or.inr (own_w hw 11 rfl)) (ty := (.array .int)) (by decide)
  have Fq_places : Fld Z h0_ q "tracecut/partition/GainQueue" "places" "[I" .null := D0 (Or.inr (own_w hw 13 rfl)) (ty := (.array .int)) (by decide)
  have Fq_gains : Fld Z h0_ q "tracecut/partition/GainQueue" "gains" "[J" .null := D0 (Or.inr (own_w hw 16 rfl)) (ty := (.array .long)) (by decide)
  have Fq_size : Fld Z h0_ q "tracecut/partition/GainQueue" "size" "I" (.int (0 : Int32)) := D0 (Or.inl (own_w hw 27 rfl)) (ty := .int) (by decide)
  refine Ok.dup cx at_3 rfl 4 rfl ?_
  refine Ok.iconst cx at_4 5 rfl (4 : Int32) rfl ?_
  refine Ok.callInit cx (a := q) [(.int (4 : Int32))] [(.ref q)] rfl rfl (own_w hw 3 rfl) (own_w hw 4 rfl) (own_w hw 2 rfl) (own_w hw 5 rfl) at_5 (by decide) pd_2 rfl rfl  (rm_1 W.l Z a0 hw q (4 : Int32) h0_ n0 Z0 X0 Fq_heap Fq_places Fq_gains Fq_size zq rfl) (by decide) 1 rfl (by decide) (by decide) (by decide) 8 rfl fun v5 h5_ q5 => ?_
  obtain ⟨rfl, a, b, g, X_, nqa, nqb, nqg, nab, nag, nbg, Z0, za, zb, zg⟩ := q5
  have I_ : own_I 0 [0, 0, 0, 0] [-1, -1, -1, -1] 0 := ⟨by omega, by omega, (fun i hi => by omega), (fun v x hx hx0 => by
    match v, hx with
    | 0, hx => cases hx; exact absurd hx0 (by decide)
    | 1, hx => cases hx; exact absurd hx0 (by decide)
    | 2, hx => cases hx; exact absurd hx0 (by decide)
    | 3, hx => cases hx; exact absurd hx0 (by decide)
    )⟩
  show Ok _ _ _ _ _ _ _ _ _ [(.ref q)]
  refine Ok.astore cx at_8 rfl One.u [.val (.int p0), .val (.long p1), .second, .val (.long p2), .second, .val (.long p3), .second, .val (.int p4), .val (.long p5), .second, .val (.ref q), .unset, .unset] rfl 10 rfl ?_
  refine Ok.iloadN cx at_10 rfl 11 rfl ?_
  refine Ok.iconst cx at_11 12 rfl (1 : Int32) rfl ?_
  refine Ok.iand cx at_12 13 rfl fun t12 e12 => ?_
  have J23 : ∀ (hh : Heap) (H P : List Int32) (gs : List Int64) (sz : Int32) (S : Nat), n0 ≤ hh.size → GQ Z hh q a b g H P gs sz → own_I 1 H P S → sz.toInt = (S : Int) → Ok W room_1 n0 (fun v _ => v = some (.int 1)) hh 4 16 23 [.val (.int p0), .val (.long p1), .second, .val (.long p2), .second, .val (.long p3), .second, .val (.int p4), .val (.long p5), .second, .val (.ref q), .unset, .unset] [] := by
    intro hh H P gs sz S Z0 X_ I_ hsz
    refine Ok.iloadN cx at_23 rfl 24 rfl ?_
    refine Ok.iconst cx at_24 25 rfl (2 : Int32) rfl ?_
    refine Ok.iand cx at_25 26 rfl fun t25 e25 => ?_
    have J36 : ∀ (hh : Heap) (H P : List Int32) (gs : List Int64) (sz : Int32) (S : Nat), n0 ≤ hh.size → GQ Z hh q a b g H P gs sz → own_I 2 H P S → sz.toInt = (S : Int) → Ok W room_1 n0 (fun v _ => v = some (.int 1)) hh 4 16 36 [.val (.int p0), .val (.long p1), .second, .val (.long p2), .second, .val (.long p3), .second, .val (.int p4), .val (.long p5), .second, .val (.ref q), .unset, .unset] [] := by
      intro hh H P gs sz S Z0 X_ I_ hsz
      refine Ok.iloadN cx at_36 rfl 37 rfl ?_
      refine Ok.iconst cx at_37 38 rfl (4 : Int32) rfl ?_
      refine Ok.iand cx at_38 39 rfl fun t38 e38 => ?_
      have J50 : ∀ (hh : Heap) (H P : List Int32) (gs : List Int64) (sz : Int32) (S : Nat), n0 ≤ hh.size → GQ Z hh q a b g H P gs sz → own_I 3 H P S → sz.toInt = (S : Int) → Ok W room_1 n0 (fun v _ => v = some (.int 1)) hh 4 16 50 [.val (.int p0), .val (.long p1), .second, .val (.long p2), .second, .val (.long p3), .second, .val (.int p4), .val (.long p5), .second, .val (.ref q), .unset, .unset] [] := by
        intro hh H P gs sz S Z0 X_ I_ hsz
        refine Ok.iloadN cx at_50 rfl 51 rfl ?_
        refine Ok.bipush cx at_51 53 rfl (8 : Int32) rfl ?_
        refine Ok.iand cx at_53 54 rfl fun t53 e53 => ?_
        have J67 : ∀ (hh : Heap) (H P : List Int32) (gs : List Int64) (sz : Int32) (S : Nat), n0 ≤ hh.size → GQ Z hh q a b g H P gs sz → own_I 4 H P S → sz.toInt = (S : Int) → Ok W room_1 n0 (fun v _ => v = some (.int 1)) hh 4 16 67 [.val (.int p0), .val (.long p1), .second, .val (.long p2), .second, .val (.long p3), .second, .val (.int p4), .val (.long p5), .second, .val (.ref q), .unset, .unset] [] := by
          intro hh H P gs sz S Z0 X_ I_ hsz
          refine Ok.aload cx at_67 rfl 69 rfl ?_
          refine Ok.callVirtual cx (a := q) [] [] rfl (own_w hw 21 rfl) (own_w hw 22 rfl) (own_w hw 24 rfl) (own_w hw 23 rfl) (own_w hw 2 rfl) (own_w hw 25 rfl) at_69 (by decide) pd_3 rfl rfl X_.1 (rm_4 W.l Z a0 hw q a b g H P gs sz 4 S hh n0 Z0 X_ I_ nqa nqb nqg nab nag nbg zq za zb zg hsz) (by decide) 0 rfl (by decide) (by decide) (by decide) 72 rfl fun v69 h69_ q69 => ?_
          obtain ⟨rfl, Z0, P', X_, hall⟩ := q69
          show Ok _ _ _ _ _ _ _ _ _ []
          refine Ok.aload cx at_72 rfl 74 rfl ?_
          refine Ok.callVirtual cx (a := q) [] [] rfl (own_w hw 28 rfl) (own_w hw 29 rfl) (own_w hw 31 rfl) (own_w hw 30 rfl) (own_w hw 2 rfl) (own_w hw 32 rfl) at_74 (by decide) pd_4 rfl rfl X_.1 (rm_5 W.l Z a0 hw q a b g H P' gs 0 h69_ n0 Z0 X_) (by decide) 0 rfl (by decide) (by decide) (by decide) 77 rfl fun v74 h74_ q74 => ?_
          obtain ⟨rfl, r74, rfl, x74⟩ := q74
          show Ok _ _ _ _ _ _ _ _ _ [(.int r74)]
          refine Ok.if_ne cx at_77 82 80 (by decide) rfl (fun c77 => ?_) (fun c77 => by exfalso; omega)
          refine Ok.iload cx at_82 rfl 84 rfl ?_
          refine Ok.iconst cx at_84 85 rfl (3 : Int32) rfl ?_
          refine Ok.iand cx at_85 86 rfl fun t85 e85 => ?_
          have m85 := c_mask p4 3 2 (by decide) (by decide); rw [← e85] at m85
          obtain ⟨nn, hnn, hnn4⟩ : ∃ nn : Nat, t85.toInt = (nn : Int) ∧ nn < 4 := ⟨t85.toInt.toNat, by omega, by omega⟩
          refine Ok.istore cx at_86 rfl One.u [.val (.int p0), .val (.long p1), .second, .val (.long p2), .second, .val (.long p3), .second, .val (.int p4), .val (.long p5), .second, .val (.ref q), .val (.int t85), .unset] rfl 88 rfl ?_
          refine Ok.aload cx at_88 rfl 90 rfl ?_
          refine Ok.iload cx at_90 rfl 92 rfl ?_
          refine Ok.lload cx at_92 rfl 94 rfl ?_
          refine Ok.callVirtual cx (a := q) [(.int t85), (.long p5)] [] rfl (own_w hw 33 rfl) (own_w hw 34 rfl) (own_w hw 36 rfl) (own_w hw 35 rfl) (own_w hw 2 rfl) (own_w hw 37 rfl) at_94 (by decide) pd_5 rfl rfl X_.1 (rm_6_0 W.l Z a0 hw q a b g t85 p5 H P' gs 0 nn 0 h69_ n0 Z0 X_ nqa nqb nqg nab nag nbg zq za zb zg hall hnn hnn4 rfl rfl) (by decide) 0 rfl (by decide) (by decide) (by decide) 97 rfl fun v94 h94_ q94 => ?_
          obtain ⟨rfl, Z0, H', P'', gs', sz', X_, hs1, hH0, x, hx, hx0⟩ := q94
          show Ok _ _ _ _ _ _ _ _ _ []
          refine Ok.aload cx at_97 rfl 99 rfl ?_
          refine Ok.callVirtual cx (a := q) [] [] rfl (own_w hw 28 rfl) (own_w hw 29 rfl) (own_w hw 31 rfl) (own_w hw 30 rfl) (own_w hw 2 rfl) (own_w hw 32 rfl) at_99 (by decide) pd_4 rfl rfl X_.1 (rm_5 W.l Z a0 hw q a b g H' P'' gs' sz' h94_ n0 Z0 X_) (by decide) 0 rfl (by decide) (by decide) (by decide) 102 rfl fun v99 h99_ q99 => ?_
          obtain ⟨rfl, r99, rfl, x99⟩ := q99
          show Ok _ _ _ _ _ _ _ _ _ [(.int r99)]
          refine Ok.if_eq cx at_102 107 105 (by decide) rfl (fun c102 => ?_) (fun c102 => by exfalso; omega)
          refine Ok.aload cx at_107 rfl 109 rfl ?_
          refine Ok.callVirtual cx (a := q) [] [] rfl (own_w hw 42 rfl) (own_w hw 43 rfl) (own_w hw 45 rfl) (own_w hw 44 rfl) (own_w hw 2 rfl) (own_w hw 46 rfl) at_109 (by decide) pd_6 rfl rfl X_.1 (rm_8 W.l Z a0 hw q a b g t85 x H' P'' gs' sz' nn h94_ n0 Z0 X_ nqa nqb nqg nab nag nbg zq za zb zg hnn hnn4 hH0 hx hx0 hs1) (by decide) 0 rfl (by decide) (by decide) (by decide) 112 rfl fun v109 h109_ q109 => ?_
          obtain ⟨rfl, Z0, P3, sz3, X_, hs3⟩ := q109
          show Ok _ _ _ _ _ _ _ _ _ [(.int t85)]
          refine Ok.istore cx at_112 rfl One.u [.val (.int p0), .val (.long p1), .second, .val (.long p2), .second, .val (.long p3), .second, .val (.int p4), .val (.long p5), .second, .val (.ref q), .val (.int t85), .val (.int t85)] rfl 114 rfl ?_
          refine Ok.iload cx at_114 rfl 116 rfl ?_
          refine Ok.iload cx at_116 rfl 118 rfl ?_
          refine Ok.icmp_ne cx at_118 133 121 (by decide) rfl (fun c118 => by exfalso; omega) (fun c118 => ?_)
          refine Ok.aload cx at_121 rfl 123 rfl ?_
          refine Ok.callVirtual cx (a := q) [] [] rfl (own_w hw 28 rfl) (own_w hw 29 rfl) (own_w hw 31 rfl) (own_w hw 30 rfl) (own_w hw 2 rfl) (own_w hw 32 rfl) at_123 (by decide) pd_4 rfl rfl X_.1 (rm_5 W.l Z a0 hw q a b g H' P3 gs' sz3 h109_ n0 Z0 X_) (by decide) 0 rfl (by decide) (by decide) (by decide) 126 rfl fun v123 h123_ q123 => ?_
          obtain ⟨rfl, r123, rfl, x123⟩ := q123
          show Ok _ _ _ _ _ _ _ _ _ [(.int r123)]
          refine Ok.if_eq cx at_126 133 129 (by decide) rfl (fun c126 => by exfalso; omega) (fun c126 => ?_)
          refine Ok.iconst cx at_129 130 rfl (1 : Int32) rfl ?_
          refine Ok.goto cx at_130 134 (by decide) ?_
          exact Ok.zreturn cx at_134 (by decide) (by decide) rfl
        refine Ok.if_eq cx at_54 67 57 (by decide) rfl (fun c54 => ?_) (fun c54 => ?_)
        · skip
          exact J67 hh _ _ _ _ S Z0 X_ (own_mono I_ (by decide)) hsz
        · skip
          refine Ok.aload cx at_57 rfl 59 rfl ?_
          refine Ok.iconst cx at_59 60 rfl (3 : Int32) rfl ?_
          refine Ok.lloadN cx at_60 rfl 61 rfl ?_
          refine Ok.lload cx at_61 rfl 63 rfl ?_
          refine Ok.lxor cx at_63 64 rfl fun t63 e63 => ?_
          refine Ok.callVirtual cx (a := q) [(.int (3 : Int32)), (.long t63)] [] rfl (own_w hw 33 rfl) (own_w hw 34 rfl) (own_w hw 36 rfl) (own_w hw 35 rfl) (own_w hw 2 rfl) (own_w hw 37 rfl) at_64 (by decide) pd_5 rfl rfl X_.1 (rm_6 W.l Z a0 hw q a b g (3 : Int32) t63 H P gs sz 3 S hh n0 Z0 X_ I_ nqa nqb nqg nab nag nbg zq za zb zg rfl (by decide) hsz) (by decide) 0 rfl (by decide) (by decide) (by decide) 67 rfl fun v64 h64_ q64 => ?_
          obtain ⟨rfl, Z0, H', P', gs', sz', X_, I_, hs'⟩ := q64
          show Ok _ _ _ _ _ _ _ _ _ []
          exact J67 h64_ _ _ _ _ (S + 1) Z0 X_ I_ (by omega)
      refine Ok.if_eq cx at_39 50 42 (by decide) rfl (fun c39 => ?_) (fun c39 => ?_)
      · skip
        exact J50 hh _ _ _ _ S Z0 X_ (own_mono I_ (by decide)) hsz
      · skip
        refine Ok.aload cx at_42 rfl 44 rfl ?_
        refine Ok.iconst cx at_44 45 rfl (2 : Int32) rfl ?_
        refine Ok.lload cx at_45 rfl 47 rfl ?_
        refine Ok.callVirtual cx (a := q) [(.int (2 : Int32)), (.long p3)] [] rfl (own_w hw 33 rfl) (own_w hw 34 rfl) (own_w hw 36 rfl) (own_w hw 35 rfl) (own_w hw 2 rfl) (own_w hw 37 rfl) at_47 (by decide) pd_5 rfl rfl X_.1 (rm_6 W.l Z a0 hw q a b g (2 : Int32) p3 H P gs sz 2 S hh n0 Z0 X_ I_ nqa nqb nqg nab nag nbg zq za zb zg rfl (by decide) hsz) (by decide) 0 rfl (by decide) (by decide) (by decide) 50 rfl fun v47 h47_ q47 => ?_
        obtain ⟨rfl, Z0, H', P', gs', sz', X_, I_, hs'⟩ := q47
        show Ok _ _ _ _ _ _ _ _ _ []
        exact J50 h47_ _ _ _ _ (S + 1) Z0 X_ I_ (by omega)
    refine Ok.if_eq cx at_26 36 29 (by decide) rfl (fun c26 => ?_) (fun c26 => ?_)
    · skip
      exact J36 hh _ _ _ _ S Z0 X_ (own_mono I_ (by decide)) hsz
    · skip
      refine Ok.aload cx at_29 rfl 31 rfl ?_
      refine Ok.iconst cx at_31 32 rfl (1 : Int32) rfl ?_
      refine Ok.lloadN cx at_32 rfl 33 rfl ?_
      refine Ok.callVirtual cx (a := q) [(.int (1 : Int32)), (.long p2)] [] rfl (own_w hw 33 rfl) (own_w hw 34 rfl) (own_w hw 36 rfl) (own_w hw 35 rfl) (own_w hw 2 rfl) (own_w hw 37 rfl) at_33 (by decide) pd_5 rfl rfl X_.1 (rm_6 W.l Z a0 hw q a b g (1 : Int32) p2 H P gs sz 1 S hh n0 Z0 X_ I_ nqa nqb nqg nab nag nbg zq za zb zg rfl (by decide) hsz) (by decide) 0 rfl (by decide) (by decide) (by decide) 36 rfl fun v33 h33_ q33 => ?_
      obtain ⟨rfl, Z0, H', P', gs', sz', X_, I_, hs'⟩ := q33
      show Ok _ _ _ _ _ _ _ _ _ []
      exact J36 h33_ _ _ _ _ (S + 1) Z0 X_ I_ (by omega)
  refine Ok.if_eq cx at_13 23 16 (by decide) rfl (fun c13 => ?_) (fun c13 => ?_)
  · skip
    exact J23 h5_ _ _ _ _ 0 Z0 X_ (own_mono I_ (by decide)) rfl
  · skip
    refine Ok.aload cx at_16 rfl 18 rfl ?_
    refine Ok.iconst cx at_18 19 rfl (0 : Int32) rfl ?_
    refine Ok.lloadN cx at_19 rfl 20 rfl ?_
    refine Ok.callVirtual cx (a := q) [(.int (0 : Int32)), (.long p1)] [] rfl (own_w hw 33 rfl) (own_w hw 34 rfl) (own_w hw 36 rfl) (own_w hw 35 rfl) (own_w hw 2 rfl) (own_w hw 37 rfl) at_20 (by decide) pd_5 rfl rfl X_.1 (rm_6 W.l Z a0 hw q a b g (0 : Int32) p1 [0, 0, 0, 0] [-1, -1, -1, -1] [0, 0, 0, 0] (0 : Int32) 0 0 h5_ n0 Z0 X_ I_ nqa nqb nqg nab nag nbg zq za zb zg rfl (by decide) rfl) (by decide) 0 rfl (by decide) (by decide) (by decide) 23 rfl fun v20 h20_ q20 => ?_
    obtain ⟨rfl, Z0, H', P', gs', sz', X_, I_, hs'⟩ := q20
    show Ok _ _ _ _ _ _ _ _ _ []
    exact J23 h20_ _ _ _ _ (0 + 1) Z0 X_ I_ (by omega)
set_option maxRecDepth 65536 in
set_option maxHeartbeats 40000000 in
theorem comes_1 {Post : Tables → Env → Array Value → State → Outcome → State → Prop} (hpost : ∀ tb e args s v u, (limb_1_1.after args s (.returned v) u = true ∧ limb_1_2.after args s (.returned v) u = true ∧ True) → FrameEnd s (.returned v) u (Jvm.fieldLocs frame_1_writes args s ++ Jvm.arrayLocs frame_1_arrays args s ++ Jvm.staticLocs frame_1_statics s) 16 128 → Post tb e args s (.returned v) u) :
    ArmFor flags0 classFile x code maxLocals ret World_1 tables_1 room_1 Calls_1 rest_1 Pre_1 Post := by
  intro l hfl _ _ p e ha hc hk s m args below hf hA hF happ hP
  obtain ⟨hcalls, hrest, hpre⟩ := hP
  obtain ⟨-, -, -, hnamed, -, -, -, hat⟩ := (Spec.applies_iff hf).mp happ
  obtain ⟨hg, hn⟩ := and_e (Cond.before_iff.mp (show (Jvm.Cond.and given_1 narrow_1).before args s = true from hpre))
  obtain ⟨hcount, g0⟩ := and_e hg
  obtain ⟨b0, g1⟩ := and_e g0
  obtain ⟨b1, g2⟩ := and_e g1
  obtain ⟨b2, g3⟩ := and_e g2
  obtain ⟨b3, g4⟩ := and_e g3
  obtain ⟨b4, g5⟩ := and_e g4
  have b5 := g5
  obtain ⟨w0, w1, w2, w3, w4, w5, rfl⟩ : ∃ w0 w1 w2 w3 w4 w5 : Value, args = #[w0, w1, w2, w3, w4, w5] := by
    have hs : args.size = 6 := by simpa [Cond.value, given_1] using hcount
    obtain ⟨L⟩ := args
    match L, hs with
    | [w0, w1, w2, w3, w4, w5], _ => exact ⟨w0, w1, w2, w3, w4, w5, rfl⟩
  have hw := fun d (hd : d ∈ tables_1) => atoms_spec (ws := Jvm.Cond.code x code maxLocals ret :: tables_1) hat d (List.mem_cons_of_mem _ hd)
  obtain ⟨i0, q0⟩ := is_v b0
  obtain rfl : w0 = (.int i0) := Option.some.inj q0
  obtain ⟨i1, q1⟩ := isL_v b1
  obtain rfl : w1 = (.long i1) := Option.some.inj q1
  obtain ⟨i2, q2⟩ := isL_v b2
  obtain rfl : w2 = (.long i2) := Option.some.inj q2
  obtain ⟨i3, q3⟩ := isL_v b3
  obtain rfl : w3 = (.long i3) := Option.some.inj q3
  obtain ⟨i4, q4⟩ := is_v b4
  obtain rfl : w4 = (.int i4) := Option.some.inj q4
  obtain ⟨i5, q5⟩ := isL_v b5
  obtain rfl : w5 = (.long i5) := Option.some.inj q5
  obtain ⟨n, o, h1, h2, h3, _, L, rfl, ⟨rfl, N⟩, hq⟩ := rm_0 l s _ hw i0 i1 i2 i3 i4 i5 s.heap s.heap.size (Nat.le_refl _) p e ha hc hk s m _ below hf ((Spec.applies_iff_loose hf).mp happ).1 ⟨rfl, State.Warmed39.refl s, rfl⟩ trivial
  refine ⟨n, _, h1, h2, h3, hpost _ _ _ _ _ _ ⟨Cond.after_iff.mpr rfl, Cond.after_iff.mpr (eq_i res_at (Term.int_eval (1)) rfl), trivial⟩ ⟨hq.1, hq.2.1, (hq.2.2.sift fun y hy => Or.inr (N y hy)).mono (by decide) (by decide)⟩⟩
theorem main_1_1 : Claimed_1_1 := comes_1 fun _ _ _ _ _ _ h hF => ⟨h.1, hF⟩
theorem main_1_2 : Claimed_1_2 := comes_1 fun _ _ _ _ _ _ h hF => ⟨h.2.1, hF⟩
end Jvm.Pilot.@@N@@
namespace Jvm.Pilot.@@N@@
open Jvm Jvm.ClassFile Sem Op Lib Jvm.Free Jvm.Stand Jvm.Pilot.@@N@@.Jvm.D
/-! MADE BY PROGRAM (witnessworld.py) out of the Statement's table words and the real class files: 12 classes; the members and pool entries that the words name. The judged class is class 1, her method 1. -/
namespace start1
open Jvm.ClassFile
def u (s : String) : CpInfo := .utf8 (stringToUtf16 s)
/-- a pool by its gaps: so many unusable entries, then the entry; so many at the end -/
def gap : Nat → List CpInfo → List CpInfo
  | 0, r => r
  | n + 1, r => .unusable :: gap n r
def poolList (es : List (Nat × CpInfo)) (last : Nat) : List CpInfo := es.foldr (fun e r => gap e.1 (e.2 :: r)) (gap last [])
def pool (es : List (Nat × CpInfo)) (last : Nat) : Array CpInfo := ⟨poolList es last⟩
def fileOf (pool : Array CpInfo) (this : Nat) (attrs : Array Attribute := #[]) (ms : Array MethodInfo := #[]) (fl : Nat := 33) (sup : Nat := 0) (ifs : Array Nat := #[]) (fds : Array FieldInfo := #[]) : ClassFile where
  minorVersion := 0
  majorVersion := 65
  constantPool := pool
  accessFlags := fl
  thisClass := this
  superClass := sup
  interfaces := ifs
  fields := fds
  methods := ms
  attributes := attrs
def plain (name : String) (sup : Option ClassId) : Class where
  name := name
  kind := .ordinary
  loader := none
  accessFlags := 33
  super := sup
  interfaces := #[]
  cf := none
  fields := #[]
  methods := #[]
  instanceTypes := #[]
  staticTypes := #[]
  resolved := #[]
  callSites := []
  init := .initialized
  statics := none
  mirror := none

def pool0 : Array CpInfo := pool [(5, u "<init>"), (0, u "()V"), (1, .class_ 10), (1, u "java/lang/Object")] 113

def k0c0 : Code := { maxStack := 0, maxLocals := 1, code := object_method_1_code, exceptionTable := #[], attributes := #[] }
def k0m0 : Method := { name := "<init>", desc := "()V", sig := { parameters := [], returnType := none }, accessFlags := 1, code := some k0c0 }
/-- java/lang/Object -/
def k0 : Class := { plain "java/lang/Object" none with
  accessFlags := 33
  interfaces := #[]
  cf := some (fileOf pool0 8 #[] #[{ accessFlags := 1, nameIndex := 5, descriptorIndex := 6, attributes := #[] }] 33 0 #[] #[])
  fields := #[]
  methods := #[k0m0]
  instanceTypes := #[]
  staticTypes := #[]
  resolved := Array.replicate 124 none
  statics := none }

def pool1 : Array CpInfo := pool [(2, .class_ 4), (1, u "java/lang/Object"), (0, u "<init>"), (0, u "()V"), (0, .class_ 8), (0, u "tracecut/partition/GainQueue"), (0, .methodref 7 10), (0, .nameAndType 5 11), (0, u "(I)V"), (0, .methodref 7 13), (0, .nameAndType 14 15), (0, u "put"), (0, u "(IJ)V"), (0, .methodref 7 17), (0, .nameAndType 18 6), (0, u "clear"), (0, .methodref 7 20), (0, .nameAndType 21 22), (0, u "isEmpty"), (0, u "()Z"), (0, .methodref 7 24), (0, .nameAndType 25 26), (0, u "poll"), (0, u "()I"), (0, .class_ 28), (0, u "tracecut/partition/GainQueueClearPinLaw"), (2, u "law"), (0, u "(IJJJIJ)Z")] 3

def k1m0 : Method := { name := "<init>", desc := "()V", sig := { parameters := [], returnType := none }, accessFlags := 1, code := none }
def k1c1 : Code := { maxStack := 6, maxLocals := 13, code := code, exceptionTable := #[], attributes := #[] }
def k1m1 : Method := { name := "law", desc := "(IJJJIJ)Z", sig := { parameters := [.int, .long, .long, .long, .int, .long], returnType := some .boolean }, accessFlags := 9, code := some k1c1 }
/-- tracecut/partition/GainQueueClearPinLaw -/
def k1 : Class := { plain "tracecut/partition/GainQueueClearPinLaw" (some 0) with
  accessFlags := 49
  interfaces := #[]
  cf := some (fileOf pool1 27 #[] #[{ accessFlags := 1, nameIndex := 5, descriptorIndex := 6, attributes := #[] }, { accessFlags := 9, nameIndex := 31, descriptorIndex := 32, attributes := #[] }] 49 2 #[] #[])
  fields := #[]
  methods := #[k1m0, k1m1]
  instanceTypes := #[]
  staticTypes := #[]
  resolved := Array.replicate 36 none
  statics := none }

def pool2 : Array CpInfo := pool [(1, .methodref 2 3), (0, .class_ 4), (0, .nameAndType 5 6), (0, u "java/lang/Object"), (0, u "<init>"), (0, u "()V"), (0, .fieldref 8 9), (0, .class_ 10), (0, .nameAndType 11 12), (0, u "tracecut/partition/GainQueue"), (0, u "heap"), (0, u "[I"), (0, .fieldref 8 14), (0, .nameAndType 15 12), (0, u "places"), (0, .fieldref 8 17), (0, .nameAndType 18 19), (0, u "gains"), (0, u "[J"), (0, .methodref 21 22), (0, .class_ 23), (0, .nameAndType 24 25), (0, u "java/util/Arrays"), (0, u "fill"), (0, u "([II)V"), (0, .fieldref 8 27), (0, .nameAndType 28 29), (0, u "size"), (0, u "I"), (0, .methodref 8 31), (0, .nameAndType 32 33), (0, u "up"), (0, u "(I)V"), (3, .methodref 8 38), (0, .nameAndType 39 33), (0, u "remove"), (0, .methodref 8 41), (0, .nameAndType 42 43), (0, u "before"), (0, u "(II)Z"), (2, u "isEmpty"), (0, u "()Z"), (1, u "put"), (0, u "(IJ)V"), (0, u "poll"), (0, u "()I"), (0, u "clear")] 2

def k2c0 : Code := { maxStack := 2, maxLocals := 2, code := prog_190_method_1_code, exceptionTable := #[], attributes := #[] }
def k2m0 : Method := { name := "<init>", desc := "(I)V", sig := { parameters := [.int], returnType := none }, accessFlags := 0, code := some k2c0 }
def k2c1 : Code := { maxStack := 1, maxLocals := 1, code := prog_190_method_2_code, exceptionTable := #[], attributes := #[] }
def k2m1 : Method := { name := "isEmpty", desc := "()Z", sig := { parameters := [], returnType := some .boolean }, accessFlags := 0, code := some k2c1 }
def k2c2 : Code := { maxStack := 6, maxLocals := 6, code := prog_190_method_3_code, exceptionTable := #[], attributes := #[] }
def k2m2 : Method := { name := "put", desc := "(IJ)V", sig := { parameters := [.int, .long], returnType := none }, accessFlags := 0, code := some k2c2 }
def k2c3 : Code := { maxStack := 3, maxLocals := 4, code := prog_190_method_4_code, exceptionTable := #[], attributes := #[] }
def k2m3 : Method := { name := "remove", desc := "(I)V", sig := { parameters := [.int], returnType := none }, accessFlags := 0, code := some k2c3 }
def k2c4 : Code := { maxStack := 2, maxLocals := 2, code := prog_190_method_5_code, exceptionTable := #[], attributes := #[] }
def k2m4 : Method := { name := "poll", desc := "()I", sig := { parameters := [], returnType := some .int }, accessFlags := 0, code := some k2c4 }
def k2c5 : Code := { maxStack := 3, maxLocals := 2, code := prog_190_method_6_code, exceptionTable := #[], attributes := #[] }
def k2m5 : Method := { name := "clear", desc := "()V", sig := { parameters := [], returnType := none }, accessFlags := 0, code := some k2c5 }
def k2c6 : Code := { maxStack := 4, maxLocals := 3, code := prog_190_method_7_code, exceptionTable := #[], attributes := #[] }
def k2m6 : Method := { name := "before", desc := "(II)Z", sig := { parameters := [.int, .int], returnType := some .boolean }, accessFlags := 2, code := some k2c6 }
def k2c7 : Code := { maxStack := 4, maxLocals := 5, code := prog_190_method_8_code, exceptionTable := #[], attributes := #[] }
def k2m7 : Method := { name := "up", desc := "(I)V", sig := { parameters := [.int], returnType := none }, accessFlags := 2, code := some k2c7 }
/-- tracecut/partition/GainQueue -/
def k2 : Class := { plain "tracecut/partition/GainQueue" (some 0) with
  accessFlags := 48
  interfaces := #[]
  cf := some (fileOf pool2 8 #[] #[{ accessFlags := 0, nameIndex := 5, descriptorIndex := 33, attributes := #[] }, { accessFlags := 0, nameIndex := 46, descriptorIndex := 47, attributes := #[] }, { accessFlags := 0, nameIndex := 49, descriptorIndex := 50, attributes := #[] }, { accessFlags := 0, nameIndex := 39, descriptorIndex := 33, attributes := #[] }, { accessFlags := 0, nameIndex := 51, descriptorIndex := 52, attributes := #[] }, { accessFlags := 0, nameIndex := 53, descriptorIndex := 6, attributes := #[] }, { accessFlags := 2, nameIndex := 42, descriptorIndex := 43, attributes := #[] }, { accessFlags := 2, nameIndex := 32, descriptorIndex := 33, attributes := #[] }] 48 2 #[] #[{ accessFlags := 18, nameIndex := 11, descriptorIndex := 12, attributes := #[] }, { accessFlags := 18, nameIndex := 15, descriptorIndex := 12, attributes := #[] }, { accessFlags := 18, nameIndex := 18, descriptorIndex := 19, attributes := #[] }, { accessFlags := 2, nameIndex := 28, descriptorIndex := 29, attributes := #[] }])
  fields := #[{ name := "heap", type := (.array .int), accessFlags := 18, slot := 0, constantValue := 0 }, { name := "places", type := (.array .int), accessFlags := 18, slot := 1, constantValue := 0 }, { name := "gains", type := (.array .long), accessFlags := 18, slot := 2, constantValue := 0 }, { name := "size", type := .int, accessFlags := 2, slot := 3, constantValue := 0 }]
  methods := #[k2m0, k2m1, k2m2, k2m3, k2m4, k2m5, k2m6, k2m7]
  instanceTypes := #[(.array .int), (.array .int), (.array .long), .int]
  staticTypes := #[]
  resolved := Array.replicate 56 none
  statics := none }

def pool3 : Array CpInfo := pool [(2, .class_ 4), (1, u "java/lang/Object"), (0, u "<init>"), (0, u "()V"), (7, .class_ 16), (1, u "java/util/Arrays"), (57, .class_ 76), (1, u "java/util/Arrays$NaturalOrder"), (36, .class_ 115), (1, u "java/util/Arrays$LegacyMergeSort"), (1, u "Z"), (257, .class_ 376), (0, u "java/util/Arrays$ArrayList"), (68, u "$assertionsDisabled"), (269, u "MIN_ARRAY_SORT_GRAN"), (0, u "I"), (2, u "INSERTIONSORT_THRESHOLD"), (120, u "fill"), (4, u "([II)V"), (129, .class_ 976), (0, u "java/util/Arrays$ArrayItr")] 52

def k3m0 : Method := { name := "<init>", desc := "()V", sig := { parameters := [], returnType := none }, accessFlags := 2, code := none }
def k3c1 : Code := { maxStack := 3, maxLocals := 4, code := jdk_65_method_103_code, exceptionTable := #[], attributes := #[] }
def k3m1 : Method := { name := "fill", desc := "([II)V", sig := { parameters := [(.array .int), .int], returnType := none }, accessFlags := 9, code := some k3c1 }
/-- java/util/Arrays -/
def k3 : Class := { plain "java/util/Arrays" (some 0) with
  accessFlags := 49
  interfaces := #[]
  cf := some (fileOf pool3 14 #[.nestMembers #[975, 375, 113, 74]] #[{ accessFlags := 2, nameIndex := 5, descriptorIndex := 6, attributes := #[] }, { accessFlags := 9, nameIndex := 840, descriptorIndex := 845, attributes := #[] }] 49 2 #[] #[{ accessFlags := 26, nameIndex := 715, descriptorIndex := 716, attributes := #[] }, { accessFlags := 26, nameIndex := 719, descriptorIndex := 716, attributes := #[] }, { accessFlags := 4120, nameIndex := 445, descriptorIndex := 117, attributes := #[] }])
  fields := #[{ name := "MIN_ARRAY_SORT_GRAN", type := .int, accessFlags := 26, slot := 0, constantValue := 0 }, { name := "INSERTIONSORT_THRESHOLD", type := .int, accessFlags := 26, slot := 1, constantValue := 0 }, { name := "$assertionsDisabled", type := .boolean, accessFlags := 4120, slot := 2, constantValue := 0 }]
  methods := #[k3m0, k3m1]
  instanceTypes := #[]
  staticTypes := #[.int, .int, .boolean]
  resolved := Array.replicate 1029 none
  statics := none }

def pool4 : Array CpInfo := pool [(1, u "java/lang/Cloneable"), (0, .class_ 1), (0, u "java/lang/Object"), (0, .class_ 3)] 3

/-- java/lang/Cloneable -/
def k4 : Class := { plain "java/lang/Cloneable" (some 0) with
  accessFlags := 1537
  interfaces := #[]
  cf := some (fileOf pool4 2 #[] #[] 1537 4 #[] #[])
  fields := #[]
  methods := #[]
  instanceTypes := #[]
  staticTypes := #[]
  resolved := Array.replicate 8 none
  statics := none }

def pool5 : Array CpInfo := pool [(1, u "java/io/Serializable"), (0, .class_ 1), (0, u "java/lang/Object"), (0, .class_ 3)] 3

/-- java/io/Serializable -/
def k5 : Class := { plain "java/io/Serializable" (some 0) with
  accessFlags := 1537
  interfaces := #[]
  cf := some (fileOf pool5 2 #[] #[] 1537 4 #[] #[])
  fields := #[]
  methods := #[]
  instanceTypes := #[]
  staticTypes := #[]
  resolved := Array.replicate 8 none
  statics := none }

/-- the primitive byte -/
def k6 : Class := { plain "byte" none with kind := .primitive 'B', accessFlags := 0x411 }
/-- [B -/
def k7 : Class := { plain "[B" (some 0) with kind := .array 6 .byte, interfaces := #[4, 5], accessFlags := 1041 }

/-- the primitive int -/
def k8 : Class := { plain "int" none with kind := .primitive 'I', accessFlags := 0x411 }
/-- [I -/
def k9 : Class := { plain "[I" (some 0) with kind := .array 8 .int, interfaces := #[4, 5], accessFlags := 1041 }

/-- the primitive long -/
def k10 : Class := { plain "long" none with kind := .primitive 'J', accessFlags := 0x411 }
/-- [J -/
def k11 : Class := { plain "[J" (some 0) with kind := .array 10 .long, interfaces := #[4, 5], accessFlags := 1041 }

def heap : Heap := #[]
def classes : Array Class := #[k0, k1, k2, k3, k4, k5, k6, k7, k8, k9, k10, k11]
def interned : List (Array UInt16 × Addr) := []
def slotsUsed : Nat := 0
def theMethod : MethodId := ⟨1, 1⟩
def args0 : Array Value := #[.int 5, .long 9, .long 7, .long 3, .int 4, .long 1]
def aboutOver (below : List Frame) : State where
  vm := { classes := classes, interned := interned.toArray }
  heap := heap
  slotsUsed := slotsUsed
  threads := #[{ frames := .invoking theMethod args0 :: below }]
def below0 : List Frame := [.native { method := ⟨0, 0⟩, args := #[] }]
def about1 : State := aboutOver below0
def p0 : Program := .bare "" "" ""
def e0 : Env := launch0.env 0 0 0
theorem w_frames : about1.frames = Frame.invoking theMethod args0 :: below0 := rfl
set_option maxRecDepth 65536 in
theorem w_args : argsFit about1.vm theMethod args0 = true := by decide +kernel
set_option maxRecDepth 65536 in
theorem w_heap : heapFits about1 = true := by decide +kernel
set_option maxRecDepth 65536 in
theorem w_runnable : about1.curStatus? = some .runnable := by decide +kernel
set_option maxRecDepth 65536 in
theorem w_alone : about1.alone = true := by decide +kernel
set_option maxRecDepth 65536 in
theorem w_named : about1.methodNamed? x = some theMethod := by decide +kernel
set_option maxRecDepth 65536 in
theorem w_hears : about1.hears theMethod below0 = true := by decide +kernel
set_option maxRecDepth 65536 in
theorem w_ripe : about1.ripe theMethod args0 below0 = true := by decide +kernel
theorem w_running : about1.status = .running := rfl
set_option maxRecDepth 65536 in
theorem w_room : about1.hasRoom e0.platform room_1 = true :=
  launch0.hasRoom_least _ room_1 (by decide +kernel) (by decide +kernel) (by decide +kernel) (by decide +kernel) (by decide +kernel) (by decide +kernel)
theorem allAtoms_all (ts : List Jvm.Cond) (a : Array Jvm.Value) (st : Jvm.State) : (allAtoms ts).before a st = ts.all (fun c => c.before a st) := by
  induction ts with
  | nil => rfl
  | cons c t ih =>
    show (Jvm.Cond.and c (allAtoms t)).before a st = _
    rw [Jvm.Cond.before_and, ih, List.all_cons]
def words1 : List Jvm.Cond := Jvm.Cond.code x code maxLocals ret :: tables_1
/-- a 'code' word, met by the world's own term for the bytes: nothing is compared byte by byte -/
theorem code_word {y : MethodName} {bytes : ByteArray} {mx : Nat} {rt : Option FieldType} {a : Array Value} {s : State} {m : MethodId} {meth : Method} {c : Code} (h1 : s.methodNamed? y = some m) (h2 : s.vm.method? m = some meth) (h3 : meth.code = some c) (h4 : c.code = bytes)
    (h5 : (c.maxLocals == mx && c.exceptionTable.isEmpty && decide (c.maxStack ≤ mostOperands) && decide (meth.sig.returnType = rt) && !meth.locks && decide (parseMethodDescriptor y.desc = some meth.sig)) = true) : (Jvm.Cond.code y bytes mx rt).before a s = true := by
  simp only [Bool.and_eq_true, beq_iff_eq, Bool.not_eq_true', decide_eq_true_eq] at h5
  obtain ⟨⟨⟨⟨⟨g1, g2⟩, g3⟩, g4⟩, g5⟩, g6⟩ := h5
  simp [Cond.before, Cond.holds, Cond.value, h1, h2, h3, h4, g1, g2, g3, g4, g5, g6]
def isCode : Jvm.Cond → Bool
  | .code _ _ _ _ => true
  | _ => false
theorem all_split {L : List Jvm.Cond} {P : Jvm.Cond → Bool} (h1 : L.all (fun c => isCode c || P c) = true) (h2 : ∀ c ∈ L.filter isCode, P c = true) : L.all P = true := by
  refine List.all_eq_true.mpr fun c hc => ?_
  have h := List.all_eq_true.mp h1 c hc
  rcases Bool.eq_false_or_eq_true (isCode c) with hi | hi
  · exact h2 c (List.mem_filter.mpr ⟨hc, hi⟩)
  · simpa [hi] using h
set_option maxRecDepth 65536 in
theorem w_c0 : (Jvm.Cond.code x code maxLocals ret).before args0 about1 = true := code_word (m := ⟨1, 1⟩) (meth := k1m1) (c := k1c1) (by decide +kernel) rfl rfl rfl (by decide +kernel)
set_option maxRecDepth 65536 in
theorem w_c1 : (Jvm.Cond.code ({ cls := "tracecut/partition/GainQueue", name := "<init>", desc := "(I)V" } : Jvm.MethodName) prog_190_method_1_code (2 : Nat) (Option.none : Option Jvm.ClassFile.FieldType)).before args0 about1 = true := code_word (m := ⟨2, 0⟩) (meth := k2m0) (c := k2c0) (by decide +kernel) rfl rfl rfl (by decide +kernel)
set_option maxRecDepth 65536 in
theorem w_c2 : (Jvm.Cond.code ({ cls := "java/lang/Object", name := "<init>", desc := "()V" } : Jvm.MethodName) object_method_1_code (1 : Nat) (Option.none : Option Jvm.ClassFile.FieldType)).before args0 about1 = true := code_word (m := ⟨0, 0⟩) (meth := k0m0) (c := k0c0) (by decide +kernel) rfl rfl rfl (by decide +kernel)
set_option maxRecDepth 65536 in
theorem w_c3 : (Jvm.Cond.code ({ cls := "java/util/Arrays", name := "fill", desc := "([II)V" } : Jvm.MethodName) jdk_65_method_103_code (4 : Nat) (Option.none : Option Jvm.ClassFile.FieldType)).before args0 about1 = true := code_word (m := ⟨3, 1⟩) (meth := k3m1) (c := k3c1) (by decide +kernel) rfl rfl rfl (by decide +kernel)
set_option maxRecDepth 65536 in
theorem w_c4 : (Jvm.Cond.code ({ cls := "tracecut/partition/GainQueue", name := "clear", desc := "()V" } : Jvm.MethodName) prog_190_method_6_code (2 : Nat) (Option.none : Option Jvm.ClassFile.FieldType)).before args0 about1 = true := code_word (m := ⟨2, 5⟩) (meth := k2m5) (c := k2c5) (by decide +kernel) rfl rfl rfl (by decide +kernel)
set_option maxRecDepth 65536 in
theorem w_c5 : (Jvm.Cond.code ({ cls := "tracecut/partition/GainQueue", name := "isEmpty", desc := "()Z" } : Jvm.MethodName) prog_190_method_2_code (1 : Nat) (Option.some Jvm.ClassFile.FieldType.boolean)).before args0 about1 = true := code_word (m := ⟨2, 1⟩) (meth := k2m1) (c := k2c1) (by decide +kernel) rfl rfl rfl (by decide +kernel)
set_option maxRecDepth 65536 in
theorem w_c6 : (Jvm.Cond.code ({ cls := "tracecut/partition/GainQueue", name := "put", desc := "(IJ)V" } : Jvm.MethodName) prog_190_method_3_code (6 : Nat) (Option.none : Option Jvm.ClassFile.FieldType)).before args0 about1 = true := code_word (m := ⟨2, 2⟩) (meth := k2m2) (c := k2c2) (by decide +kernel) rfl rfl rfl (by decide +kernel)
set_option maxRecDepth 65536 in
theorem w_c7 : (Jvm.Cond.code ({ cls := "tracecut/partition/GainQueue", name := "up", desc := "(I)V" } : Jvm.MethodName) prog_190_method_8_code (5 : Nat) (Option.none : Option Jvm.ClassFile.FieldType)).before args0 about1 = true := code_word (m := ⟨2, 7⟩) (meth := k2m7) (c := k2c7) (by decide +kernel) rfl rfl rfl (by decide +kernel)
set_option maxRecDepth 65536 in
theorem w_c8 : (Jvm.Cond.code ({ cls := "tracecut/partition/GainQueue", name := "poll", desc := "()I" } : Jvm.MethodName) prog_190_method_5_code (2 : Nat) (Option.some Jvm.ClassFile.FieldType.int)).before args0 about1 = true := code_word (m := ⟨2, 4⟩) (meth := k2m4) (c := k2c4) (by decide +kernel) rfl rfl rfl (by decide +kernel)
set_option maxRecDepth 65536 in
theorem w_c9 : (Jvm.Cond.code ({ cls := "tracecut/partition/GainQueue", name := "remove", desc := "(I)V" } : Jvm.MethodName) prog_190_method_4_code (4 : Nat) (Option.none : Option Jvm.ClassFile.FieldType)).before args0 about1 = true := code_word (m := ⟨2, 3⟩) (meth := k2m3) (c := k2c3) (by decide +kernel) rfl rfl rfl (by decide +kernel)
set_option maxRecDepth 65536 in
theorem w_c10 : (Jvm.Cond.code ({ cls := "tracecut/partition/GainQueue", name := "before", desc := "(II)Z" } : Jvm.MethodName) prog_190_method_7_code (3 : Nat) (Option.some Jvm.ClassFile.FieldType.boolean)).before args0 about1 = true := code_word (m := ⟨2, 6⟩) (meth := k2m6) (c := k2c6) (by decide +kernel) rfl rfl rfl (by decide +kernel)
def codes1 : List Jvm.Cond := [Jvm.Cond.code x code maxLocals ret, Jvm.Cond.code ({ cls := "tracecut/partition/GainQueue", name := "<init>", desc := "(I)V" } : Jvm.MethodName) prog_190_method_1_code (2 : Nat) (Option.none : Option Jvm.ClassFile.FieldType), Jvm.Cond.code ({ cls := "java/lang/Object", name := "<init>", desc := "()V" } : Jvm.MethodName) object_method_1_code (1 : Nat) (Option.none : Option Jvm.ClassFile.FieldType), Jvm.Cond.code ({ cls := "java/util/Arrays", name := "fill", desc := "([II)V" } : Jvm.MethodName) jdk_65_method_103_code (4 : Nat) (Option.none : Option Jvm.ClassFile.FieldType), Jvm.Cond.code ({ cls := "tracecut/partition/GainQueue", name := "clear", desc := "()V" } : Jvm.MethodName) prog_190_method_6_code (2 : Nat) (Option.none : Option Jvm.ClassFile.FieldType), Jvm.Cond.code ({ cls := "tracecut/partition/GainQueue", name := "isEmpty", desc := "()Z" } : Jvm.MethodName) prog_190_method_2_code (1 : Nat) (Option.some Jvm.ClassFile.FieldType.boolean), Jvm.Cond.code ({ cls := "tracecut/partition/GainQueue", name := "put", desc := "(IJ)V" } : Jvm.MethodName) prog_190_method_3_code (6 : Nat) (Option.none : Option Jvm.ClassFile.FieldType), Jvm.Cond.code ({ cls := "tracecut/partition/GainQueue", name := "up", desc := "(I)V" } : Jvm.MethodName) prog_190_method_8_code (5 : Nat) (Option.none : Option Jvm.ClassFile.FieldType), Jvm.Cond.code ({ cls := "tracecut/partition/GainQueue", name := "poll", desc := "()I" } : Jvm.MethodName) prog_190_method_5_code (2 : Nat) (Option.some Jvm.ClassFile.FieldType.int), Jvm.Cond.code ({ cls := "tracecut/partition/GainQueue", name := "remove", desc := "(I)V" } : Jvm.MethodName) prog_190_method_4_code (4 : Nat) (Option.none : Option Jvm.ClassFile.FieldType), Jvm.Cond.code ({ cls := "tracecut/partition/GainQueue", name := "before", desc := "(II)Z" } : Jvm.MethodName) prog_190_method_7_code (3 : Nat) (Option.some Jvm.ClassFile.FieldType.boolean)]
set_option maxRecDepth 65536 in
theorem codes_eq : words1.filter isCode = codes1 := rfl
theorem w_codes : ∀ c ∈ words1.filter isCode, c.before args0 about1 = true := by
  rw [codes_eq]
  intro c hc
  simp only [codes1, List.mem_cons, List.not_mem_nil, or_false] at hc
  rcases hc with rfl | rfl | rfl | rfl | rfl | rfl | rfl | rfl | rfl | rfl | rfl
  · exact w_c0
  · exact w_c1
  · exact w_c2
  · exact w_c3
  · exact w_c4
  · exact w_c5
  · exact w_c6
  · exact w_c7
  · exact w_c8
  · exact w_c9
  · exact w_c10
set_option maxRecDepth 65536 in
theorem w_t1 : (words1.take 24).all (fun c => isCode c || c.before args0 about1) = true := by decide +kernel
set_option maxRecDepth 65536 in
theorem w_t2 : ((words1.drop 24).take 24).all (fun c => isCode c || c.before args0 about1) = true := by decide +kernel
set_option maxRecDepth 65536 in
theorem w_t3 : ((words1.drop 24).drop 24).all (fun c => isCode c || c.before args0 about1) = true := by decide +kernel
theorem w_tables : (allAtoms (Jvm.Cond.code x code maxLocals ret :: tables_1)).before args0 about1 = true := by
  rw [allAtoms_all]
  show words1.all (fun c => c.before args0 about1) = true
  refine all_split ?_ w_codes
  rw [← List.take_append_drop 24 words1, List.all_append, w_t1, ← List.take_append_drop 24 (words1.drop 24), List.all_append, w_t2, w_t3]
  rfl
set_option maxRecDepth 65536 in
theorem w_case : (Jvm.Cond.and given_1 narrow_1).before args0 about1 = true := by decide +kernel
theorem w_applies : (headSpec (Jvm.Cond.code x code maxLocals ret :: tables_1) room_1).applies x e0.platform about1 = true :=
  (Spec.applies_iff w_frames).mpr ⟨w_running, w_runnable, w_alone, w_named, w_hears, w_ripe, w_room, w_tables⟩
theorem atStart : AtStart classFile x code maxLocals ret World_1 tables_1 room_1 Calls_1 rest_1 Pre_1 launch0 p0 e0 about1 theMethod args0 below0 :=
  ⟨lists_1, trivial, launch0.admits_env _ _ _, launch0.least_env, fairChoices_fair.cas, fairChoices_fair.clock, w_frames, w_args, w_heap, w_applies, trivial, trivial, w_case⟩
end start1
theorem witness_1 : WitnessClaimed_1 := ⟨start1.p0, start1.e0, start1.about1, start1.theMethod, start1.args0, start1.below0, start1.atStart⟩
end Jvm.Pilot.@@N@@
