import JvmDerived
import JvmDerived.Pilot.@@N@@Statement
import JvmDerived.Pilot.@@N@@Code
set_option linter.unusedVariables false
set_option linter.unusedSimpArgs false
namespace Jvm.Pilot.@@N@@
open Jvm Jvm.ClassFile Sem Op Lib Jvm.Free Jvm.Stand Jvm.LawKit Jvm.RoadKit Bundle Jvm.Pilot.@@N@@.Jvm.D
/-! own framework: `Ok` = 'from this frame over this heap the body comes to its end with Q'; one lemma an instruction -/
abbrev Wd : Type := Program × Launch × Env × State × MethodId × Array Value × List Frame × Method × Code
abbrev Wd.p (W : Wd) : Program := W.1
abbrev Wd.l (W : Wd) : Launch := W.2.1
abbrev Wd.e (W : Wd) : Env := W.2.2.1
abbrev Wd.s (W : Wd) : State := W.2.2.2.1
abbrev Wd.m (W : Wd) : MethodId := W.2.2.2.2.1
abbrev Wd.args (W : Wd) : Array Value := W.2.2.2.2.2.1
abbrev Wd.below (W : Wd) : List Frame := W.2.2.2.2.2.2.1
abbrev Wd.meth (W : Wd) : Method := W.2.2.2.2.2.2.2.1
abbrev Wd.c (W : Wd) : Code := W.2.2.2.2.2.2.2.2
def Ok (W : Wd) (R : Room) (n0 : Nat) (Q : Option Value → Heap → Prop) (h : Heap) (k n pc : Nat) (Ls : List Slot) (st : List Value) : Prop :=
  ∀ (T : State) (locs : List Loc), Stand W.p W.l W.e R W.s W.m W.args W.below W.meth W.c T locs k n → T.heap = h → Fr n0 locs →
    ∃ s₂ o, Steps W.p.tables W.e W.below (T.setTop (mkF W.m pc Ls.toArray st)) s₂ ∧ s₂.status = .running ∧ Ended s₂ W.below o ∧ ∃ v L, o = .returned v ∧ (Q v s₂.heap ∧ Fr n0 L) ∧ FrameEnd W.s o s₂ L R.cells R.slots
def Cx (W : Wd) (Z : State) (own nm : String) (bc : ByteArray) (maxL : Nat) (rt : Option FieldType) : Prop :=
  W.p.tables.exec = Jvm.exec ∧ Z.Warmed39 W.s.vm ∧ W.c.code = bc ∧ W.c.maxLocals = maxL ∧ W.s.vm.findClass own = some W.m.cls ∧ W.meth.sig.returnType = rt ∧ W.meth.locks = false ∧ W.meth.name = nm
section Own
variable {W : Wd} {R : Room} {n0 : Nat} {Q : Option Value → Heap → Prop} {h : Heap} {k n pc : Nat} {Ls : List Slot} {st : List Value} {Z : State} {own nm : String} {bc : ByteArray} {maxL : Nat} {rt : Option FieldType} {a0 : Array Value}
theorem Ok.back {pc' : Nat} {Ls' : List Slot} {st' : List Value} (g : Ok W R n0 Q h k n pc' Ls' st')
    (hs : ∀ (T : State) (locs : List Loc), Stand W.p W.l W.e R W.s W.m W.args W.below W.meth W.c T locs k n → T.heap = h → ∀ t, Steps W.p.tables W.e W.below (T.setTop (mkF W.m pc' Ls'.toArray st')) t → Steps W.p.tables W.e W.below (T.setTop (mkF W.m pc Ls.toArray st)) t) :
    Ok W R n0 Q h k n pc Ls st := fun T locs X e N => by
  obtain ⟨s₂, o, S, r⟩ := g T locs X e N
  exact ⟨s₂, o, hs T locs X e _ S, r⟩
/-- the same, the state (not its heap) moved -/
theorem Ok.move {pc' : Nat} {Ls' : List Slot} {st' : List Value} (g : Ok W R n0 Q h k n pc' Ls' st')
    (hs : ∀ (T : State) (locs : List Loc), Stand W.p W.l W.e R W.s W.m W.args W.below W.meth W.c T locs k n → T.heap = h → ∃ T', Stand W.p W.l W.e R W.s W.m W.args W.below W.meth W.c T' locs k n ∧ T'.heap = h ∧ ∀ t, Steps W.p.tables W.e W.below (T'.setTop (mkF W.m pc' Ls'.toArray st')) t → Steps W.p.tables W.e W.below (T.setTop (mkF W.m pc Ls.toArray st)) t) :
    Ok W R n0 Q h k n pc Ls st := fun T locs X e N => by
  obtain ⟨T', X', e', st⟩ := hs T locs X e
  obtain ⟨s₂, o, S, r⟩ := g T' locs X' e' N
  exact ⟨s₂, o, st _ S, r⟩
theorem own_get {Ls : List Slot} {i : Nat} {v : Slot} (hl : Ls[i]? = some v) : Ls.toArray[i]? = some v := by simpa using hl
theorem own_store {Ls Ls' : List Slot} {i : Nat} {v : Value} {o : Slot} (hold : Ls[i]? = some o) (ho : One o) (hv : v.category = 1) (hL : Ls.set i (.val v) = Ls') : storeLocals Ls.toArray i v = some Ls'.toArray := by
  rw [XS.store1 (own_get hold) ho hv, ← hL]; simp

theorem Ok.iload (C : Cx W Z own nm bc maxL rt) {i : Nat} {v : Int32} (hd : decode bc pc = .ok (.iload i, 2)) (hl : Ls[i]? = some (.val (.int v))) (q : Nat) (hq : pc + 2 = q) (g : Ok W R n0 Q h k n q Ls (.int v :: st)) : Ok W R n0 Q h k n pc Ls st := by
  subst hq
  exact g.back fun T locs X e t s => XS.iload X.here C.1 rfl (hb C.2.2.1 hd) (own_get hl) s
theorem Ok.iloadN (C : Cx W Z own nm bc maxL rt) {i : Fin 4} {v : Int32} (hd : decode bc pc = .ok (.iload_n i, 1)) (hl : Ls[i.val]? = some (.val (.int v))) (q : Nat) (hq : pc + 1 = q) (g : Ok W R n0 Q h k n q Ls (.int v :: st)) : Ok W R n0 Q h k n pc Ls st := by
  subst hq
  exact g.back fun T locs X e t s => XS.iloadN X.here C.1 rfl (hb C.2.2.1 hd) (own_get hl) s
theorem Ok.lload (C : Cx W Z own nm bc maxL rt) {i : Nat} {v : Int64} (hd : decode bc pc = .ok (.lload i, 2)) (hl : Ls[i]? = some (.val (.long v))) (q : Nat) (hq : pc + 2 = q) (g : Ok W R n0 Q h k n q Ls (.long v :: st)) : Ok W R n0 Q h k n pc Ls st := by
  subst hq
  exact g.back fun T locs X e t s => XS.lload X.here C.1 rfl (hb C.2.2.1 hd) (own_get hl) s
theorem Ok.lloadN (C : Cx W Z own nm bc maxL rt) {i : Fin 4} {v : Int64} (hd : decode bc pc = .ok (.lload_n i, 1)) (hl : Ls[i.val]? = some (.val (.long v))) (q : Nat) (hq : pc + 1 = q) (g : Ok W R n0 Q h k n q Ls (.long v :: st)) : Ok W R n0 Q h k n pc Ls st := by
  subst hq
  exact g.back fun T locs X e t s => XS.lloadN X.here C.1 rfl (hb C.2.2.1 hd) (own_get hl) s
theorem Ok.aload (C : Cx W Z own nm bc maxL rt) {i : Nat} {v : Addr} (hd : decode bc pc = .ok (.aload i, 2)) (hl : Ls[i]? = some (.val (.ref v))) (q : Nat) (hq : pc + 2 = q) (g : Ok W R n0 Q h k n q Ls (.ref v :: st)) : Ok W R n0 Q h k n pc Ls st := by
  subst hq
  exact g.back fun T locs X e t s => XS.aload X.here C.1 rfl (hb C.2.2.1 hd) (own_get hl) rfl s
theorem Ok.aloadN (C : Cx W Z own nm bc maxL rt) {i : Fin 4} {v : Addr} (hd : decode bc pc = .ok (.aload_n i, 1)) (hl : Ls[i.val]? = some (.val (.ref v))) (q : Nat) (hq : pc + 1 = q) (g : Ok W R n0 Q h k n q Ls (.ref v :: st)) : Ok W R n0 Q h k n pc Ls st := by
  subst hq
  exact g.back fun T locs X e t s => XS.aloadN X.here C.1 rfl (hb C.2.2.1 hd) (own_get hl) rfl s
theorem Ok.istore (C : Cx W Z own nm bc maxL rt) {i : Nat} {x : Int32} {o : Slot} (hd : decode bc pc = .ok (.istore i, 2)) (hold : Ls[i]? = some o) (ho : One o) (Ls' : List Slot) (hL : Ls.set i (.val (.int x)) = Ls') (q : Nat) (hq : pc + 2 = q) (g : Ok W R n0 Q h k n q Ls' st) : Ok W R n0 Q h k n pc Ls (.int x :: st) := by
  subst hq
  exact g.back fun T locs X e t s => XS.istore X.here C.1 rfl (hb C.2.2.1 hd) rfl (own_store hold ho rfl hL) s
theorem Ok.istoreN (C : Cx W Z own nm bc maxL rt) {i : Fin 4} {x : Int32} {o : Slot} (hd : decode bc pc = .ok (.istore_n i, 1)) (hold : Ls[i.val]? = some o) (ho : One o) (Ls' : List Slot) (hL : Ls.set i.val (.val (.int x)) = Ls') (q : Nat) (hq : pc + 1 = q) (g : Ok W R n0 Q h k n q Ls' st) : Ok W R n0 Q h k n pc Ls (.int x :: st) := by
  subst hq
  exact g.back fun T locs X e t s => XS.istoreN X.here C.1 rfl (hb C.2.2.1 hd) rfl (own_store hold ho rfl hL) s
theorem Ok.astore (C : Cx W Z own nm bc maxL rt) {i : Nat} {x : Addr} {o : Slot} (hd : decode bc pc = .ok (.astore i, 2)) (hold : Ls[i]? = some o) (ho : One o) (Ls' : List Slot) (hL : Ls.set i (.val (.ref x)) = Ls') (q : Nat) (hq : pc + 2 = q) (g : Ok W R n0 Q h k n q Ls' st) : Ok W R n0 Q h k n pc Ls (.ref x :: st) := by
  subst hq
  exact g.back fun T locs X e t s => XS.astore X.here C.1 rfl (hb C.2.2.1 hd) rfl rfl (own_store hold ho rfl hL) s
theorem Ok.astoreN (C : Cx W Z own nm bc maxL rt) {i : Fin 4} {x : Addr} {o : Slot} (hd : decode bc pc = .ok (.astore_n i, 1)) (hold : Ls[i.val]? = some o) (ho : One o) (Ls' : List Slot) (hL : Ls.set i.val (.val (.ref x)) = Ls') (q : Nat) (hq : pc + 1 = q) (g : Ok W R n0 Q h k n q Ls' st) : Ok W R n0 Q h k n pc Ls (.ref x :: st) := by
  subst hq
  exact g.back fun T locs X e t s => XS.astoreN X.here C.1 rfl (hb C.2.2.1 hd) rfl rfl (own_store hold ho rfl hL) s
theorem Ok.lstore (C : Cx W Z own nm bc maxL rt) {i : Nat} {x : Int64} (hd : decode bc pc = .ok (.lstore i, 2)) (Ls' : List Slot) (hL : storeLocals Ls.toArray i (.long x) = some Ls'.toArray) (q : Nat) (hq : pc + 2 = q) (g : Ok W R n0 Q h k n q Ls' st) : Ok W R n0 Q h k n pc Ls (.long x :: st) := by
  subst hq
  exact g.back fun T locs X e t s => XS.lstore X.here C.1 rfl (hb C.2.2.1 hd) rfl hL s
theorem Ok.lstoreN (C : Cx W Z own nm bc maxL rt) {i : Fin 4} {x : Int64} (hd : decode bc pc = .ok (.lstore_n i, 1)) (Ls' : List Slot) (hL : storeLocals Ls.toArray i.val (.long x) = some Ls'.toArray) (q : Nat) (hq : pc + 1 = q) (g : Ok W R n0 Q h k n q Ls' st) : Ok W R n0 Q h k n pc Ls (.long x :: st) := by
  subst hq
  exact g.back fun T locs X e t s => XS.lstoreN X.here C.1 rfl (hb C.2.2.1 hd) rfl hL s
theorem Ok.iconst (C : Cx W Z own nm bc maxL rt) {i : Int} (hd : decode bc pc = .ok (.iconst i, 1)) (q : Nat) (hq : pc + 1 = q) (z : Int32) (hz : Int32.ofInt i = z) (g : Ok W R n0 Q h k n q Ls (.int z :: st)) : Ok W R n0 Q h k n pc Ls st := by
  subst hq hz
  exact g.back fun T locs X e t s => XS.iconst X.here C.1 rfl (hb C.2.2.1 hd) s
theorem Ok.bipush (C : Cx W Z own nm bc maxL rt) {i : Int} (hd : decode bc pc = .ok (.bipush i, 2)) (q : Nat) (hq : pc + 2 = q) (z : Int32) (hz : (Int8.ofInt i).toInt32 = z) (g : Ok W R n0 Q h k n q Ls (.int z :: st)) : Ok W R n0 Q h k n pc Ls st := by
  subst hq hz
  exact g.back fun T locs X e t s => XS.bipush X.here C.1 rfl (hb C.2.2.1 hd) s
theorem Ok.sipush (C : Cx W Z own nm bc maxL rt) {i : Int} (hd : decode bc pc = .ok (.sipush i, 3)) (q : Nat) (hq : pc + 3 = q) (z : Int32) (hz : (Int16.ofInt i).toInt32 = z) (g : Ok W R n0 Q h k n q Ls (.int z :: st)) : Ok W R n0 Q h k n pc Ls st := by
  subst hq hz
  exact g.back fun T locs X e t s => XS.sipush X.here C.1 rfl (hb C.2.2.1 hd) s
theorem Ok.lconst (C : Cx W Z own nm bc maxL rt) {i : Fin 2} (hd : decode bc pc = .ok (.lconst i, 1)) (q : Nat) (hq : pc + 1 = q) (z : Int64) (hz : Int64.ofNat i = z) (g : Ok W R n0 Q h k n q Ls (.long z :: st)) : Ok W R n0 Q h k n pc Ls st := by
  subst hq hz
  exact g.back fun T locs X e t s => XS.lconst X.here C.1 rfl (hb C.2.2.1 hd) s
theorem Ok.ldc (C : Cx W Z own nm bc maxL rt) {i : Nat} {v : Int32} (w : (Jvm.Cond.constant own i v).before a0 Z = true) (hd : decode bc pc = .ok (.ldc i, 2)) (q : Nat) (hq : pc + 2 = q) (g : Ok W R n0 Q h k n q Ls (.int v :: st)) : Ok W R n0 Q h k n pc Ls st := by
  subst hq
  exact g.back fun T locs X e t s => X.ldcInt C.1 C.2.2.2.2.1 (mvT C.2.1 w) (g := mkF W.m pc Ls.toArray st) rfl (hb C.2.2.1 hd) t s
theorem Ok.ldc2 (C : Cx W Z own nm bc maxL rt) {i : Nat} {v : Int64} (w : (Jvm.Cond.constantLong own i v).before a0 Z = true) (hd : decode bc pc = .ok (.ldc2_w i, 3)) (q : Nat) (hq : pc + 3 = q) (g : Ok W R n0 Q h k n q Ls (.long v :: st)) : Ok W R n0 Q h k n pc Ls st := by
  subst hq
  exact g.back fun T locs X e t s => X.ldc2Long C.1 C.2.2.2.2.1 (mvT C.2.1 w) (g := mkF W.m pc Ls.toArray st) rfl (hb C.2.2.1 hd) t s
theorem Ok.iadd (C : Cx W Z own nm bc maxL rt) {x : Int32} {y : Int32} (hd : decode bc pc = .ok (.iadd, 1)) (q : Nat) (hq : pc + 1 = q) (g : ∀ z, z = x + y → Ok W R n0 Q h k n q Ls (.int z :: st)) : Ok W R n0 Q h k n pc Ls (.int y :: .int x :: st) := by
  subst hq
  exact (g _ rfl).back fun T locs X e t s => XS.iadd X.here C.1 rfl (hb C.2.2.1 hd) rfl s
theorem Ok.isub (C : Cx W Z own nm bc maxL rt) {x : Int32} {y : Int32} (hd : decode bc pc = .ok (.isub, 1)) (q : Nat) (hq : pc + 1 = q) (g : ∀ z, z = x - y → Ok W R n0 Q h k n q Ls (.int z :: st)) : Ok W R n0 Q h k n pc Ls (.int y :: .int x :: st) := by
  subst hq
  exact (g _ rfl).back fun T locs X e t s => XS.isub X.here C.1 rfl (hb C.2.2.1 hd) rfl s
theorem Ok.imul (C : Cx W Z own nm bc maxL rt) {x : Int32} {y : Int32} (hd : decode bc pc = .ok (.imul, 1)) (q : Nat) (hq : pc + 1 = q) (g : ∀ z, z = x * y → Ok W R n0 Q h k n q Ls (.int z :: st)) : Ok W R n0 Q h k n pc Ls (.int y :: .int x :: st) := by
  subst hq
  exact (g _ rfl).back fun T locs X e t s => XS.imul X.here C.1 rfl (hb C.2.2.1 hd) rfl s
theorem Ok.iand (C : Cx W Z own nm bc maxL rt) {x : Int32} {y : Int32} (hd : decode bc pc = .ok (.iand, 1)) (q : Nat) (hq : pc + 1 = q) (g : ∀ z, z = x &&& y → Ok W R n0 Q h k n q Ls (.int z :: st)) : Ok W R n0 Q h k n pc Ls (.int y :: .int x :: st) := by
  subst hq
  exact (g _ rfl).back fun T locs X e t s => XS.iand X.here C.1 rfl (hb C.2.2.1 hd) rfl s
theorem Ok.ior (C : Cx W Z own nm bc maxL rt) {x : Int32} {y : Int32} (hd : decode bc pc = .ok (.ior, 1)) (q : Nat) (hq : pc + 1 = q) (g : ∀ z, z = x ||| y → Ok W R n0 Q h k n q Ls (.int z :: st)) : Ok W R n0 Q h k n pc Ls (.int y :: .int x :: st) := by
  subst hq
  exact (g _ rfl).back fun T locs X e t s => XS.ior X.here C.1 rfl (hb C.2.2.1 hd) rfl s
theorem Ok.ixor (C : Cx W Z own nm bc maxL rt) {x : Int32} {y : Int32} (hd : decode bc pc = .ok (.ixor, 1)) (q : Nat) (hq : pc + 1 = q) (g : ∀ z, z = x ^^^ y → Ok W R n0 Q h k n q Ls (.int z :: st)) : Ok W R n0 Q h k n pc Ls (.int y :: .int x :: st) := by
  subst hq
  exact (g _ rfl).back fun T locs X e t s => XS.ixor X.here C.1 rfl (hb C.2.2.1 hd) rfl s
theorem Ok.ishl (C : Cx W Z own nm bc maxL rt) {x : Int32} {y : Int32} (hd : decode bc pc = .ok (.ishl, 1)) (q : Nat) (hq : pc + 1 = q) (g : ∀ z, z = x <<< (y &&& 31) → Ok W R n0 Q h k n q Ls (.int z :: st)) : Ok W R n0 Q h k n pc Ls (.int y :: .int x :: st) := by
  subst hq
  exact (g _ rfl).back fun T locs X e t s => XS.ishl X.here C.1 rfl (hb C.2.2.1 hd) rfl s
theorem Ok.ishr (C : Cx W Z own nm bc maxL rt) {x : Int32} {y : Int32} (hd : decode bc pc = .ok (.ishr, 1)) (q : Nat) (hq : pc + 1 = q) (g : ∀ z, z = x >>> (y &&& 31) → Ok W R n0 Q h k n q Ls (.int z :: st)) : Ok W R n0 Q h k n pc Ls (.int y :: .int x :: st) := by
  subst hq
  exact (g _ rfl).back fun T locs X e t s => XS.ishr X.here C.1 rfl (hb C.2.2.1 hd) rfl s
theorem Ok.iushr (C : Cx W Z own nm bc maxL rt) {x : Int32} {y : Int32} (hd : decode bc pc = .ok (.iushr, 1)) (q : Nat) (hq : pc + 1 = q) (g : ∀ z, z = (x.toUInt32 >>> (y &&& 31).toUInt32).toInt32 → Ok W R n0 Q h k n q Ls (.int z :: st)) : Ok W R n0 Q h k n pc Ls (.int y :: .int x :: st) := by
  subst hq
  exact (g _ rfl).back fun T locs X e t s => XS.iushr X.here C.1 rfl (hb C.2.2.1 hd) rfl s
theorem Ok.ladd (C : Cx W Z own nm bc maxL rt) {x : Int64} {y : Int64} (hd : decode bc pc = .ok (.ladd, 1)) (q : Nat) (hq : pc + 1 = q) (g : ∀ z, z = x + y → Ok W R n0 Q h k n q Ls (.long z :: st)) : Ok W R n0 Q h k n pc Ls (.long y :: .long x :: st) := by
  subst hq
  exact (g _ rfl).back fun T locs X e t s => XS.ladd X.here C.1 rfl (hb C.2.2.1 hd) rfl s
theorem Ok.lsub (C : Cx W Z own nm bc maxL rt) {x : Int64} {y : Int64} (hd : decode bc pc = .ok (.lsub, 1)) (q : Nat) (hq : pc + 1 = q) (g : ∀ z, z = x - y → Ok W R n0 Q h k n q Ls (.long z :: st)) : Ok W R n0 Q h k n pc Ls (.long y :: .long x :: st) := by
  subst hq
  exact (g _ rfl).back fun T locs X e t s => XS.lsub X.here C.1 rfl (hb C.2.2.1 hd) rfl s
theorem Ok.lmul (C : Cx W Z own nm bc maxL rt) {x : Int64} {y : Int64} (hd : decode bc pc = .ok (.lmul, 1)) (q : Nat) (hq : pc + 1 = q) (g : ∀ z, z = x * y → Ok W R n0 Q h k n q Ls (.long z :: st)) : Ok W R n0 Q h k n pc Ls (.long y :: .long x :: st) := by
  subst hq
  exact (g _ rfl).back fun T locs X e t s => XS.lmul X.here C.1 rfl (hb C.2.2.1 hd) rfl s
theorem Ok.land (C : Cx W Z own nm bc maxL rt) {x : Int64} {y : Int64} (hd : decode bc pc = .ok (.land, 1)) (q : Nat) (hq : pc + 1 = q) (g : ∀ z, z = x &&& y → Ok W R n0 Q h k n q Ls (.long z :: st)) : Ok W R n0 Q h k n pc Ls (.long y :: .long x :: st) := by
  subst hq
  exact (g _ rfl).back fun T locs X e t s => XS.land X.here C.1 rfl (hb C.2.2.1 hd) rfl s
theorem Ok.lor (C : Cx W Z own nm bc maxL rt) {x : Int64} {y : Int64} (hd : decode bc pc = .ok (.lor, 1)) (q : Nat) (hq : pc + 1 = q) (g : ∀ z, z = x ||| y → Ok W R n0 Q h k n q Ls (.long z :: st)) : Ok W R n0 Q h k n pc Ls (.long y :: .long x :: st) := by
  subst hq
  exact (g _ rfl).back fun T locs X e t s => XS.lor X.here C.1 rfl (hb C.2.2.1 hd) rfl s
theorem Ok.lxor (C : Cx W Z own nm bc maxL rt) {x : Int64} {y : Int64} (hd : decode bc pc = .ok (.lxor, 1)) (q : Nat) (hq : pc + 1 = q) (g : ∀ z, z = x ^^^ y → Ok W R n0 Q h k n q Ls (.long z :: st)) : Ok W R n0 Q h k n pc Ls (.long y :: .long x :: st) := by
  subst hq
  exact (g _ rfl).back fun T locs X e t s => XS.lxor X.here C.1 rfl (hb C.2.2.1 hd) rfl s
theorem Ok.lshl (C : Cx W Z own nm bc maxL rt) {x : Int64} {y : Int32} (hd : decode bc pc = .ok (.lshl, 1)) (q : Nat) (hq : pc + 1 = q) (g : ∀ z, z = x <<< (y &&& 0x3f).toInt64 → Ok W R n0 Q h k n q Ls (.long z :: st)) : Ok W R n0 Q h k n pc Ls (.int y :: .long x :: st) := by
  subst hq
  exact (g _ rfl).back fun T locs X e t s => XS.lshl X.here C.1 rfl (hb C.2.2.1 hd) rfl s
theorem Ok.lushr (C : Cx W Z own nm bc maxL rt) {x : Int64} {y : Int32} (hd : decode bc pc = .ok (.lushr, 1)) (q : Nat) (hq : pc + 1 = q) (g : ∀ z, z = (x.toUInt64 >>> (y &&& 0x3f).toInt64.toUInt64).toInt64 → Ok W R n0 Q h k n q Ls (.long z :: st)) : Ok W R n0 Q h k n pc Ls (.int y :: .long x :: st) := by
  subst hq
  exact (g _ rfl).back fun T locs X e t s => XS.lushr X.here C.1 rfl (hb C.2.2.1 hd) rfl s
theorem Ok.idiv (C : Cx W Z own nm bc maxL rt) {x y : Int32} (hd : decode bc pc = .ok (.idiv, 1)) (hy : y ≠ 0) (q : Nat) (hq : pc + 1 = q) (g : ∀ z, z = x / y → Ok W R n0 Q h k n q Ls (.int z :: st)) : Ok W R n0 Q h k n pc Ls (.int y :: .int x :: st) := by
  subst hq
  exact (g _ rfl).back fun T locs X e t s => XS.idiv X.here C.1 rfl (hb C.2.2.1 hd) rfl hy s
theorem Ok.ldiv (C : Cx W Z own nm bc maxL rt) {x y : Int64} (hd : decode bc pc = .ok (.ldiv, 1)) (hy : y ≠ 0) (q : Nat) (hq : pc + 1 = q) (g : ∀ z, z = x / y → Ok W R n0 Q h k n q Ls (.long z :: st)) : Ok W R n0 Q h k n pc Ls (.long y :: .long x :: st) := by
  subst hq
  exact (g _ rfl).back fun T locs X e t s => XS.ldiv X.here C.1 rfl (hb C.2.2.1 hd) rfl hy s
theorem Ok.irem (C : Cx W Z own nm bc maxL rt) {x y : Int32} (hd : decode bc pc = .ok (.irem, 1)) (hy : y ≠ 0) (q : Nat) (hq : pc + 1 = q) (g : ∀ z, z = x % y → Ok W R n0 Q h k n q Ls (.int z :: st)) : Ok W R n0 Q h k n pc Ls (.int y :: .int x :: st) := by
  subst hq
  exact (g _ rfl).back fun T locs X e t s => iremM X C.1 rfl (hb C.2.2.1 hd) rfl hy s
theorem Ok.lrem (C : Cx W Z own nm bc maxL rt) {x y : Int64} (hd : decode bc pc = .ok (.lrem, 1)) (hy : y ≠ 0) (q : Nat) (hq : pc + 1 = q) (g : ∀ z, z = x % y → Ok W R n0 Q h k n q Ls (.long z :: st)) : Ok W R n0 Q h k n pc Ls (.long y :: .long x :: st) := by
  subst hq
  have g := g _ (lrem_mod x y)
  exact g.back fun T locs X e t s => XS.lrem X.here C.1 rfl (hb C.2.2.1 hd) rfl hy s
theorem Ok.i2l (C : Cx W Z own nm bc maxL rt) {x : Int32} (hd : decode bc pc = .ok (.i2l, 1)) (q : Nat) (hq : pc + 1 = q) (g : ∀ z, z = x.toInt64 → Ok W R n0 Q h k n q Ls (.long z :: st)) : Ok W R n0 Q h k n pc Ls (.int x :: st) := by
  subst hq
  exact (g _ rfl).back fun T locs X e t s => XS.i2l X.here C.1 rfl (hb C.2.2.1 hd) rfl s
theorem Ok.l2i (C : Cx W Z own nm bc maxL rt) {x : Int64} (hd : decode bc pc = .ok (.l2i, 1)) (q : Nat) (hq : pc + 1 = q) (g : ∀ z, z = x.toInt32 → Ok W R n0 Q h k n q Ls (.int z :: st)) : Ok W R n0 Q h k n pc Ls (.long x :: st) := by
  subst hq
  exact (g _ rfl).back fun T locs X e t s => XS.l2i X.here C.1 rfl (hb C.2.2.1 hd) rfl s
theorem Ok.i2b (C : Cx W Z own nm bc maxL rt) {x : Int32} (hd : decode bc pc = .ok (.i2b, 1)) (q : Nat) (hq : pc + 1 = q) (g : ∀ z, z = x.toInt8.toInt32 → Ok W R n0 Q h k n q Ls (.int z :: st)) : Ok W R n0 Q h k n pc Ls (.int x :: st) := by
  subst hq
  exact (g _ rfl).back fun T locs X e t s => XS.i2b X.here C.1 rfl (hb C.2.2.1 hd) rfl s
theorem Ok.ineg (C : Cx W Z own nm bc maxL rt) {x : Int32} (hd : decode bc pc = .ok (.ineg, 1)) (q : Nat) (hq : pc + 1 = q) (g : ∀ z, z = -x → Ok W R n0 Q h k n q Ls (.int z :: st)) : Ok W R n0 Q h k n pc Ls (.int x :: st) := by
  subst hq
  exact (g _ rfl).back fun T locs X e t s => XS.ineg X.here C.1 rfl (hb C.2.2.1 hd) rfl s
theorem Ok.lneg (C : Cx W Z own nm bc maxL rt) {x : Int64} (hd : decode bc pc = .ok (.lneg, 1)) (q : Nat) (hq : pc + 1 = q) (g : ∀ z, z = -x → Ok W R n0 Q h k n q Ls (.long z :: st)) : Ok W R n0 Q h k n pc Ls (.long x :: st) := by
  subst hq
  exact (g _ rfl).back fun T locs X e t s => XS.lneg X.here C.1 rfl (hb C.2.2.1 hd) rfl s
theorem Ok.iinc (C : Cx W Z own nm bc maxL rt) {i : Nat} {cst : Int} {x : Int32} (hd : decode bc pc = .ok (.iinc i cst, 3)) (hl : Ls[i]? = some (.val (.int x))) (z : Int32) (hz : Int32.ofInt cst = z) (Ls' : Int32 → List Slot) (hL : ∀ y, Ls.set i (.val (.int y)) = Ls' y) (q : Nat) (hq : pc + 3 = q) (g : ∀ y, y = x + z → Ok W R n0 Q h k n q (Ls' y) st) : Ok W R n0 Q h k n pc Ls st := by
  subst hq hz
  exact (g _ rfl).back fun T locs X e t s => XS.iinc X.here C.1 rfl (hb C.2.2.1 hd) (own_get hl) (own_store hl (One.val rfl) rfl (hL _)) s
theorem Ok.dup (C : Cx W Z own nm bc maxL rt) {x : Value} (hd : decode bc pc = .ok (.dup, 1)) (hc : x.category = 1) (q : Nat) (hq : pc + 1 = q) (g : Ok W R n0 Q h k n q Ls (x :: x :: st)) : Ok W R n0 Q h k n pc Ls (x :: st) := by
  subst hq
  exact g.back fun T locs X e t s => XS.dup X.here C.1 rfl (hb C.2.2.1 hd) rfl hc s
theorem Ok.pop (C : Cx W Z own nm bc maxL rt) {x : Value} (hd : decode bc pc = .ok (.pop, 1)) (hc : x.category = 1) (q : Nat) (hq : pc + 1 = q) (g : Ok W R n0 Q h k n q Ls st) : Ok W R n0 Q h k n pc Ls (x :: st) := by
  subst hq
  exact g.back fun T locs X e t s => XS.pop X.here C.1 rfl (hb C.2.2.1 hd) rfl hc s
theorem Ok.dupX1 (C : Cx W Z own nm bc maxL rt) {x y : Value} (hd : decode bc pc = .ok (.dup_x1, 1)) (hc : x.category = 1) (hc2 : y.category = 1) (q : Nat) (hq : pc + 1 = q) (g : Ok W R n0 Q h k n q Ls (x :: y :: x :: st)) : Ok W R n0 Q h k n pc Ls (x :: y :: st) := by
  subst hq
  exact g.back fun T locs X e t s => XS.dupX1 X.here C.1 rfl (hb C.2.2.1 hd) rfl hc hc2 s
theorem Ok.dup2 (C : Cx W Z own nm bc maxL rt) {x y : Value} (hd : decode bc pc = .ok (.dup2, 1)) (hc : x.category = 1) (hc2 : y.category = 1) (q : Nat) (hq : pc + 1 = q) (g : Ok W R n0 Q h k n q Ls (x :: y :: x :: y :: st)) : Ok W R n0 Q h k n pc Ls (x :: y :: st) := by
  subst hq
  exact g.back fun T locs X e t s => by
    have hd' := hb C.2.2.1 hd
    have hx := C.1
    show Steps _ _ _ (T.setTop { method := W.m, pc := pc, locals := Ls.toArray, stack := x :: y :: st, locked := none }) _
    jvm_step X.here [X.here.top, hx, hd', hc, hc2]
    exact s
theorem Ok.dupX2 (C : Cx W Z own nm bc maxL rt) {x y z : Value} (hd : decode bc pc = .ok (.dup_x2, 1)) (hc : x.category = 1) (hc2 : y.category = 1) (hc3 : z.category = 1) (q : Nat) (hq : pc + 1 = q) (g : Ok W R n0 Q h k n q Ls (x :: y :: z :: x :: st)) : Ok W R n0 Q h k n pc Ls (x :: y :: z :: st) := by
  subst hq
  exact g.back fun T locs X e t s => by
    have hd' := hb C.2.2.1 hd
    have hx := C.1
    show Steps _ _ _ (T.setTop { method := W.m, pc := pc, locals := Ls.toArray, stack := x :: y :: z :: st, locked := none }) _
    jvm_step X.here [X.here.top, hx, hd', hc, hc2, hc3]
    exact s
theorem Ok.goto (C : Cx W Z own nm bc maxL rt) {o : Int} (hd : decode bc pc = .ok (.goto o, 3)) (q : Nat) (hq : (pc : Int) + o = q) (g : Ok W R n0 Q h k n q Ls st) : Ok W R n0 Q h k n pc Ls st :=
  g.back fun T locs X e t s => XS.goto X.here C.1 rfl (pc0 := pc) (pc' := q) rfl (hb C.2.2.1 hd) (by omega) (by omega) s
theorem Ok.icmpB (C : Cx W Z own nm bc maxL rt) {cd : ClassFile.Cond} {x y : Int32} {o : Int} (hd : decode bc pc = .ok (.if_icmp cd o, 3)) (t q : Nat) (ht : (pc : Int) + o = t) (hq : pc + 3 = q) (g1 : if_icmp.holds cd x y = true → Ok W R n0 Q h k n t Ls st) (g2 : if_icmp.holds cd x y = false → Ok W R n0 Q h k n q Ls st) : Ok W R n0 Q h k n pc Ls (.int y :: .int x :: st) := by
  subst hq
  cases hc : if_icmp.holds cd x y
  · exact (g2 hc).back fun T locs X e t s => XS.icmpNo X.here C.1 rfl (hb C.2.2.1 hd) rfl hc s
  · exact (g1 hc).back fun T locs X e t' s => XS.icmpYes X.here C.1 rfl (pc0 := pc) (pc' := t) rfl (hb C.2.2.1 hd) rfl hc (by omega) (by omega) s
theorem Ok.ifB (C : Cx W Z own nm bc maxL rt) {cd : ClassFile.Cond} {x : Int32} {o : Int} (hd : decode bc pc = .ok (.ifCond cd o, 3)) (t q : Nat) (ht : (pc : Int) + o = t) (hq : pc + 3 = q) (g1 : if_icmp.holds cd x 0 = true → Ok W R n0 Q h k n t Ls st) (g2 : if_icmp.holds cd x 0 = false → Ok W R n0 Q h k n q Ls st) : Ok W R n0 Q h k n pc Ls (.int x :: st) := by
  subst hq
  cases hc : if_icmp.holds cd x 0
  · exact (g2 hc).back fun T locs X e t s => XS.ifNo X.here C.1 rfl (hb C.2.2.1 hd) rfl ((if0 _ _).trans hc) s
  · exact (g1 hc).back fun T locs X e t' s => XS.ifYes X.here C.1 rfl (pc0 := pc) (pc' := t) rfl (hb C.2.2.1 hd) rfl ((if0 _ _).trans hc) (by omega) (by omega) s
theorem Ok.lcmp (C : Cx W Z own nm bc maxL rt) {x y : Int64} (hd : decode bc pc = .ok (.lcmp, 1)) (q : Nat) (hq : pc + 1 = q) (g : Ok W R n0 Q h k n q Ls (.int (lcmpW x y) :: st)) : Ok W R n0 Q h k n pc Ls (.long y :: .long x :: st) := by
  subst hq
  exact g.back fun T locs X e t s => XS.lcmp X.here C.1 rfl (hb C.2.2.1 hd) rfl s
theorem h_lt {x y : Int32} : (if_icmp.holds .lt x y = true → x.toInt < y.toInt) ∧ (if_icmp.holds .lt x y = false → y.toInt ≤ x.toInt) := by simp [if_icmp.holds, Int32.lt_iff_toInt_lt]
theorem h_ge {x y : Int32} : (if_icmp.holds .ge x y = true → y.toInt ≤ x.toInt) ∧ (if_icmp.holds .ge x y = false → x.toInt < y.toInt) := by simp [if_icmp.holds, Int32.le_iff_toInt_le]
theorem h_gt {x y : Int32} : (if_icmp.holds .gt x y = true → y.toInt < x.toInt) ∧ (if_icmp.holds .gt x y = false → x.toInt ≤ y.toInt) := by simp [if_icmp.holds, Int32.lt_iff_toInt_lt]
theorem h_le {x y : Int32} : (if_icmp.holds .le x y = true → x.toInt ≤ y.toInt) ∧ (if_icmp.holds .le x y = false → y.toInt < x.toInt) := by simp [if_icmp.holds, Int32.le_iff_toInt_le]
theorem h_eq {x y : Int32} : (if_icmp.holds .eq x y = true → x.toInt = y.toInt) ∧ (if_icmp.holds .eq x y = false → x.toInt ≠ y.toInt) := by simp [if_icmp.holds, Int32.toInt_inj]
theorem h_ne {x y : Int32} : (if_icmp.holds .ne x y = true → x.toInt ≠ y.toInt) ∧ (if_icmp.holds .ne x y = false → x.toInt = y.toInt) := by simp [if_icmp.holds, Int32.toInt_inj]
theorem lw_z (x y : Int64) : (lcmpW x y).toInt = 1 ∧ y.toInt < x.toInt ∨ (lcmpW x y).toInt = 0 ∧ x.toInt = y.toInt ∨ (lcmpW x y).toInt = -1 ∧ x.toInt < y.toInt := by
  obtain ⟨a, b, c⟩ := c_lcmp x y
  by_cases h1 : x.toInt < y.toInt
  · exact Or.inr (Or.inr ⟨a h1, h1⟩)
  · by_cases h2 : x.toInt = y.toInt
    · exact Or.inr (Or.inl ⟨b h2, h2⟩)
    · exact Or.inl ⟨c (by omega), by omega⟩
theorem z32 : (0 : Int32).toInt = 0 := rfl
theorem Ok.icmp_lt (C : Cx W Z own nm bc maxL rt) {x y : Int32} {o : Int} (hd : decode bc pc = .ok (.if_icmp .lt o, 3)) (t q : Nat) (ht : (pc : Int) + o = t) (hq : pc + 3 = q) (g1 : x.toInt < y.toInt → Ok W R n0 Q h k n t Ls st) (g2 : y.toInt ≤ x.toInt → Ok W R n0 Q h k n q Ls st) : Ok W R n0 Q h k n pc Ls (.int y :: .int x :: st) :=
  Ok.icmpB C hd t q ht hq (fun z => g1 (h_lt.1 z)) (fun z => g2 (h_lt.2 z))
theorem Ok.if_lt (C : Cx W Z own nm bc maxL rt) {x : Int32} {o : Int} (hd : decode bc pc = .ok (.ifCond .lt o, 3)) (t q : Nat) (ht : (pc : Int) + o = t) (hq : pc + 3 = q) (g1 : x.toInt < 0 → Ok W R n0 Q h k n t Ls st) (g2 : 0 ≤ x.toInt → Ok W R n0 Q h k n q Ls st) : Ok W R n0 Q h k n pc Ls (.int x :: st) :=
  Ok.ifB C hd t q ht hq (fun z => g1 (h_lt.1 z)) (fun z => g2 (h_lt.2 z))
theorem Ok.lcmp_lt (C : Cx W Z own nm bc maxL rt) {x y : Int64} {o : Int} (hd0 : decode bc pc = .ok (.lcmp, 1)) (hd : decode bc (pc + 1) = .ok (.ifCond .lt o, 3)) (t q : Nat) (ht : ((pc + 1 : Nat) : Int) + o = t) (hq : pc + 1 + 3 = q) (g1 : x.toInt < y.toInt → Ok W R n0 Q h k n t Ls st) (g2 : y.toInt ≤ x.toInt → Ok W R n0 Q h k n q Ls st) : Ok W R n0 Q h k n pc Ls (.long y :: .long x :: st) :=
  Ok.lcmp C hd0 _ rfl (Ok.if_lt C hd t q ht hq (fun z => g1 (by have := lw_z x y; omega)) (fun z => g2 (by have := lw_z x y; omega)))
theorem Ok.icmp_ge (C : Cx W Z own nm bc maxL rt) {x y : Int32} {o : Int} (hd : decode bc pc = .ok (.if_icmp .ge o, 3)) (t q : Nat) (ht : (pc : Int) + o = t) (hq : pc + 3 = q) (g1 : y.toInt ≤ x.toInt → Ok W R n0 Q h k n t Ls st) (g2 : x.toInt < y.toInt → Ok W R n0 Q h k n q Ls st) : Ok W R n0 Q h k n pc Ls (.int y :: .int x :: st) :=
  Ok.icmpB C hd t q ht hq (fun z => g1 (h_ge.1 z)) (fun z => g2 (h_ge.2 z))
theorem Ok.if_ge (C : Cx W Z own nm bc maxL rt) {x : Int32} {o : Int} (hd : decode bc pc = .ok (.ifCond .ge o, 3)) (t q : Nat) (ht : (pc : Int) + o = t) (hq : pc + 3 = q) (g1 : 0 ≤ x.toInt → Ok W R n0 Q h k n t Ls st) (g2 : x.toInt < 0 → Ok W R n0 Q h k n q Ls st) : Ok W R n0 Q h k n pc Ls (.int x :: st) :=
  Ok.ifB C hd t q ht hq (fun z => g1 (h_ge.1 z)) (fun z => g2 (h_ge.2 z))
theorem Ok.lcmp_ge (C : Cx W Z own nm bc maxL rt) {x y : Int64} {o : Int} (hd0 : decode bc pc = .ok (.lcmp, 1)) (hd : decode bc (pc + 1) = .ok (.ifCond .ge o, 3)) (t q : Nat) (ht : ((pc + 1 : Nat) : Int) + o = t) (hq : pc + 1 + 3 = q) (g1 : y.toInt ≤ x.toInt → Ok W R n0 Q h k n t Ls st) (g2 : x.toInt < y.toInt → Ok W R n0 Q h k n q Ls st) : Ok W R n0 Q h k n pc Ls (.long y :: .long x :: st) :=
  Ok.lcmp C hd0 _ rfl (Ok.if_ge C hd t q ht hq (fun z => g1 (by have := lw_z x y; omega)) (fun z => g2 (by have := lw_z x y; omega)))
theorem Ok.icmp_gt (C : Cx W Z own nm bc maxL rt) {x y : Int32} {o : Int} (hd : decode bc pc = .ok (.if_icmp .gt o, 3)) (t q : Nat) (ht : (pc : Int) + o = t) (hq : pc + 3 = q) (g1 : y.toInt < x.toInt → Ok W R n0 Q h k n t Ls st) (g2 : x.toInt ≤ y.toInt → Ok W R n0 Q h k n q Ls st) : Ok W R n0 Q h k n pc Ls (.int y :: .int x :: st) :=
  Ok.icmpB C hd t q ht hq (fun z => g1 (h_gt.1 z)) (fun z => g2 (h_gt.2 z))
theorem Ok.if_gt (C : Cx W Z own nm bc maxL rt) {x : Int32} {o : Int} (hd : decode bc pc = .ok (.ifCond .gt o, 3)) (t q : Nat) (ht : (pc : Int) + o = t) (hq : pc + 3 = q) (g1 : 0 < x.toInt → Ok W R n0 Q h k n t Ls st) (g2 : x.toInt ≤ 0 → Ok W R n0 Q h k n q Ls st) : Ok W R n0 Q h k n pc Ls (.int x :: st) :=
  Ok.ifB C hd t q ht hq (fun z => g1 (h_gt.1 z)) (fun z => g2 (h_gt.2 z))
theorem Ok.lcmp_gt (C : Cx W Z own nm bc maxL rt) {x y : Int64} {o : Int} (hd0 : decode bc pc = .ok (.lcmp, 1)) (hd : decode bc (pc + 1) = .ok (.ifCond .gt o, 3)) (t q : Nat) (ht : ((pc + 1 : Nat) : Int) + o = t) (hq : pc + 1 + 3 = q) (g1 : y.toInt < x.toInt → Ok W R n0 Q h k n t Ls st) (g2 : x.toInt ≤ y.toInt → Ok W R n0 Q h k n q Ls st) : Ok W R n0 Q h k n pc Ls (.long y :: .long x :: st) :=
  Ok.lcmp C hd0 _ rfl (Ok.if_gt C hd t q ht hq (fun z => g1 (by have := lw_z x y; omega)) (fun z => g2 (by have := lw_z x y; omega)))
theorem Ok.icmp_le (C : Cx W Z own nm bc maxL rt) {x y : Int32} {o : Int} (hd : decode bc pc = .ok (.if_icmp .le o, 3)) (t q : Nat) (ht : (pc : Int) + o = t) (hq : pc + 3 = q) (g1 : x.toInt ≤ y.toInt → Ok W R n0 Q h k n t Ls st) (g2 : y.toInt < x.toInt → Ok W R n0 Q h k n q Ls st) : Ok W R n0 Q h k n pc Ls (.int y :: .int x :: st) :=
  Ok.icmpB C hd t q ht hq (fun z => g1 (h_le.1 z)) (fun z => g2 (h_le.2 z))
theorem Ok.if_le (C : Cx W Z own nm bc maxL rt) {x : Int32} {o : Int} (hd : decode bc pc = .ok (.ifCond .le o, 3)) (t q : Nat) (ht : (pc : Int) + o = t) (hq : pc + 3 = q) (g1 : x.toInt ≤ 0 → Ok W R n0 Q h k n t Ls st) (g2 : 0 < x.toInt → Ok W R n0 Q h k n q Ls st) : Ok W R n0 Q h k n pc Ls (.int x :: st) :=
  Ok.ifB C hd t q ht hq (fun z => g1 (h_le.1 z)) (fun z => g2 (h_le.2 z))
theorem Ok.lcmp_le (C : Cx W Z own nm bc maxL rt) {x y : Int64} {o : Int} (hd0 : decode bc pc = .ok (.lcmp, 1)) (hd : decode bc (pc + 1) = .ok (.ifCond .le o, 3)) (t q : Nat) (ht : ((pc + 1 : Nat) : Int) + o = t) (hq : pc + 1 + 3 = q) (g1 : x.toInt ≤ y.toInt → Ok W R n0 Q h k n t Ls st) (g2 : y.toInt < x.toInt → Ok W R n0 Q h k n q Ls st) : Ok W R n0 Q h k n pc Ls (.long y :: .long x :: st) :=
  Ok.lcmp C hd0 _ rfl (Ok.if_le C hd t q ht hq (fun z => g1 (by have := lw_z x y; omega)) (fun z => g2 (by have := lw_z x y; omega)))
theorem Ok.icmp_eq (C : Cx W Z own nm bc maxL rt) {x y : Int32} {o : Int} (hd : decode bc pc = .ok (.if_icmp .eq o, 3)) (t q : Nat) (ht : (pc : Int) + o = t) (hq : pc + 3 = q) (g1 : x.toInt = y.toInt → Ok W R n0 Q h k n t Ls st) (g2 : x.toInt ≠ y.toInt → Ok W R n0 Q h k n q Ls st) : Ok W R n0 Q h k n pc Ls (.int y :: .int x :: st) :=
  Ok.icmpB C hd t q ht hq (fun z => g1 (h_eq.1 z)) (fun z => g2 (h_eq.2 z))
theorem Ok.if_eq (C : Cx W Z own nm bc maxL rt) {x : Int32} {o : Int} (hd : decode bc pc = .ok (.ifCond .eq o, 3)) (t q : Nat) (ht : (pc : Int) + o = t) (hq : pc + 3 = q) (g1 : x.toInt = 0 → Ok W R n0 Q h k n t Ls st) (g2 : x.toInt ≠ 0 → Ok W R n0 Q h k n q Ls st) : Ok W R n0 Q h k n pc Ls (.int x :: st) :=
  Ok.ifB C hd t q ht hq (fun z => g1 (h_eq.1 z)) (fun z => g2 (h_eq.2 z))
theorem Ok.lcmp_eq (C : Cx W Z own nm bc maxL rt) {x y : Int64} {o : Int} (hd0 : decode bc pc = .ok (.lcmp, 1)) (hd : decode bc (pc + 1) = .ok (.ifCond .eq o, 3)) (t q : Nat) (ht : ((pc + 1 : Nat) : Int) + o = t) (hq : pc + 1 + 3 = q) (g1 : x.toInt = y.toInt → Ok W R n0 Q h k n t Ls st) (g2 : x.toInt ≠ y.toInt → Ok W R n0 Q h k n q Ls st) : Ok W R n0 Q h k n pc Ls (.long y :: .long x :: st) :=
  Ok.lcmp C hd0 _ rfl (Ok.if_eq C hd t q ht hq (fun z => g1 (by have := lw_z x y; omega)) (fun z => g2 (by have := lw_z x y; omega)))
theorem Ok.icmp_ne (C : Cx W Z own nm bc maxL rt) {x y : Int32} {o : Int} (hd : decode bc pc = .ok (.if_icmp .ne o, 3)) (t q : Nat) (ht : (pc : Int) + o = t) (hq : pc + 3 = q) (g1 : x.toInt ≠ y.toInt → Ok W R n0 Q h k n t Ls st) (g2 : x.toInt = y.toInt → Ok W R n0 Q h k n q Ls st) : Ok W R n0 Q h k n pc Ls (.int y :: .int x :: st) :=
  Ok.icmpB C hd t q ht hq (fun z => g1 (h_ne.1 z)) (fun z => g2 (h_ne.2 z))
theorem Ok.if_ne (C : Cx W Z own nm bc maxL rt) {x : Int32} {o : Int} (hd : decode bc pc = .ok (.ifCond .ne o, 3)) (t q : Nat) (ht : (pc : Int) + o = t) (hq : pc + 3 = q) (g1 : x.toInt ≠ 0 → Ok W R n0 Q h k n t Ls st) (g2 : x.toInt = 0 → Ok W R n0 Q h k n q Ls st) : Ok W R n0 Q h k n pc Ls (.int x :: st) :=
  Ok.ifB C hd t q ht hq (fun z => g1 (h_ne.1 z)) (fun z => g2 (h_ne.2 z))
theorem Ok.lcmp_ne (C : Cx W Z own nm bc maxL rt) {x y : Int64} {o : Int} (hd0 : decode bc pc = .ok (.lcmp, 1)) (hd : decode bc (pc + 1) = .ok (.ifCond .ne o, 3)) (t q : Nat) (ht : ((pc + 1 : Nat) : Int) + o = t) (hq : pc + 1 + 3 = q) (g1 : x.toInt ≠ y.toInt → Ok W R n0 Q h k n t Ls st) (g2 : x.toInt = y.toInt → Ok W R n0 Q h k n q Ls st) : Ok W R n0 Q h k n pc Ls (.long y :: .long x :: st) :=
  Ok.lcmp C hd0 _ rfl (Ok.if_ne C hd t q ht hq (fun z => g1 (by have := lw_z x y; omega)) (fun z => g2 (by have := lw_z x y; omega)))
/-! the heap -/
theorem Ok.getfield (C : Cx W Z own nm bc maxL rt) {O f d : String} {i : Nat} {a : Addr} {v : Value} (w : (Jvm.Cond.fieldLink own i O f d).before a0 Z = true) (hd : decode bc pc = .ok (.getfield i, 3)) (F : Fld Z h a O f d v) (q : Nat) (hq : pc + 3 = q) (g : Ok W R n0 Q h k n q Ls (v :: st)) : Ok W R n0 Q h k n pc Ls (.ref a :: st) := by
  subst hq
  exact g.move fun T locs X e => getF X C.1 C.2.1 C.2.2.2.2.1 (host := "") (Or.inl w) Via.refl e F (g := mkF W.m pc Ls.toArray (.ref a :: st)) rfl rfl (hb C.2.2.1 hd)
theorem Ok.putfield (C : Cx W Z own nm bc maxL rt) {O f d K : String} {i kk : Nat} {a : Addr} {v old : Value} {ty : FieldType} (w : (Jvm.Cond.fieldLink own i O f d).before a0 Z = true) (hd : decode bc pc = .ok (.putfield i, 3)) (F : Fld Z h a O f d old) (E : Exa Z h a K) (L : (Jvm.Cond.lays K O f d).before a0 Z = true ∨ ((Jvm.Cond.laysFinal K O f d).before a0 Z = true ∧ own = O ∧ nm = "<init>")) (wi : (Jvm.Cond.instantiable K kk).before a0 Z = true)
    (hty : parseFieldDescriptor d = some ty) (hn : narrow ty v = v) (hf : fits ty v = true) (hN : n0 ≤ a) (q : Nat) (hq : pc + 3 = q) (g : ∀ h', Wr h h' a (Jvm.RoadKit.slotOf Z O f d) v → Fld Z h' a O f d v → Ok W R n0 Q h' k n q Ls st) : Ok W R n0 Q h k n pc Ls (v :: .ref a :: st) := fun T locs X e N => by
  subst hq
  obtain ⟨T', h', X', e', Wr', st'⟩ := putF X C.1 C.2.1 C.2.2.2.2.1 (host := "") (Or.inl w) Via.refl e F E (L.imp id fun z => ⟨z.1, z.2.1, C.2.2.2.2.2.2.2.trans z.2.2⟩) wi hty hn hf (g := mkF W.m pc Ls.toArray (v :: .ref a :: st)) rfl rfl (hb C.2.2.1 hd)
  obtain ⟨s₂, o, S, r⟩ := g h' Wr' (F.same Wr') T' _ X' e' (Fr.snoc X' N hN)
  exact ⟨s₂, o, st' _ S, r⟩
theorem Ok.new (C : Cx W Z own nm bc maxL rt) {K : String} {i m : Nat} (w : (Jvm.Cond.classLink own i K).before a0 Z = true) (wi : (Jvm.Cond.instantiable K m).before a0 Z = true) (wz : (Jvm.Cond.initialized K).before a0 Z = true) (hd : decode bc pc = .ok (.new i, 3)) (hc : k + 1 ≤ R.cells) (hl : n + m ≤ R.slots) (q : Nat) (hq : pc + 3 = q)
    (g : ∀ h' a, a = h.size → Ext h h' → Exa Z h' a K → (∀ {O nm d : String} {ty : FieldType}, Laid Z a0 K O nm d → parseFieldDescriptor d = some ty → Fld Z h' a O nm d (defaultValue ty)) → Ok W R n0 Q h' (k + 1) (n + m) q Ls (.ref a :: st)) : Ok W R n0 Q h k n pc Ls st := fun T locs X e N => by
  subst hq
  obtain ⟨T', h', X', e', E', A', D', -, st'⟩ := newO X C.1 C.2.1 C.2.2.2.2.1 w wi wz e (g := mkF W.m pc Ls.toArray st) rfl (hb C.2.2.1 hd) hc hl
  obtain ⟨s₂, o, S, r⟩ := g h' _ rfl E' A' D' T' _ X' e' N
  exact ⟨s₂, o, st' _ S, r⟩
/-- the array at a holds vs -/
def AI (Z : State) (h : Heap) (a : Addr) (ty : FieldType) (vs : List Value) : Prop := ∃ c : Cell, Arr Z h a c ty ∧ c.slots = vs.toArray
theorem AI.lt {a : Addr} {ty : FieldType} {vs : List Value} (F : AI Z h a ty vs) : a < h.size := by obtain ⟨c, A, -⟩ := F; exact A.lt
theorem AI.ext {h' : Heap} {a : Addr} {ty : FieldType} {vs : List Value} (F : AI Z h a ty vs) (E : Ext h h') : AI Z h' a ty vs := by obtain ⟨c, A, r⟩ := F; exact ⟨c, A.ext E, r⟩
theorem AI.other {h' : Heap} {a b : Addr} {sl : Nat} {v : Value} {ty : FieldType} {vs : List Value} (F : AI Z h b ty vs) (W : Wr h h' a sl v) (q : b ≠ a) : AI Z h' b ty vs := by obtain ⟨c, A, r⟩ := F; exact ⟨c, A.other W q, r⟩
theorem AI.keep {h' : Heap} {a : Addr} {ws : List Addr} {ty : FieldType} {vs : List Value} (F : AI Z h a ty vs) (K : Keep h h' ws) (q : a ∉ ws) : AI Z h' a ty vs := by obtain ⟨c, A, r⟩ := F; exact ⟨c, ⟨K.2.1 a c A.1 q, A.2⟩, r⟩
theorem AI.same {h' : Heap} {a : Addr} {i : Nat} {v : Value} {ty : FieldType} {vs : List Value} (F : AI Z h a ty vs) (W : Wr h h' a i v) : AI Z h' a ty (vs.set i v) := by
  obtain ⟨c, A, r⟩ := F; exact ⟨_, A.same W, by simp [Cell.setSlot, r]⟩
theorem ne_AI {a b : Addr} {K : String} {kk : Nat} {ty : FieldType} {vs : List Value} (E : Exa Z h a K) (wi : (Jvm.Cond.instantiable K kk).before a0 Z = true) (F : AI Z h b ty vs) : a ≠ b := by obtain ⟨c, A, -⟩ := F; exact ne_arr E wi A
theorem own_nat {j : Int32} {i : Nat} (hj : j.toInt = i) : j.toNatClampNeg = i ∧ ¬ j < 0 := by
  have h2 : ¬ j < 0 := by rw [Int32.lt_iff_toInt_lt, z32]; omega
  have h3 := nat_of h2
  exact ⟨by omega, h2⟩
theorem own_in {c : Cell} {j : Int32} {i : Nat} {vs : List Value} (hj : j.toInt = i) (hc : c.slots = vs.toArray) (hi : i < vs.length) : ¬ (j < 0 ∨ c.slots.size ≤ j.toNatClampNeg) := by
  obtain ⟨h1, h2⟩ := own_nat hj
  rintro (h3 | h3)
  · exact h2 h3
  · rw [hc, h1] at h3; simp at h3; omega
theorem own_at {c : Cell} {j : Int32} {i : Nat} {vs : List Value} {v : Value} (hj : j.toInt = i) (hc : c.slots = vs.toArray) (hv : vs[i]? = some v) : c.slots[j.toNatClampNeg]? = some v := by
  rw [(own_nat hj).1, hc]; simpa using hv
theorem own_bd {i : Nat} {vs : List Value} {v : Value} (hv : vs[i]? = some v) : i < vs.length := (List.getElem?_eq_some_iff.mp hv).1
theorem Ok.newarray (C : Cx W Z own nm bc maxL rt) {aty : ArrayType} {ty : FieldType} {z : Int32} (w : (Jvm.Cond.arrayClass ty).before a0 Z = true) (hd : decode bc pc = .ok (.newarray aty, 2)) (hty : newarray.typeOf aty = ty) (i : Nat) (hz : z.toInt = i) (hb' : i * 8 ≤ 536870912) (cap : Nat) (hcap : i ≤ cap) (hb2 : cap * 8 ≤ 536870912) (hc : k + 1 ≤ R.cells) (hl : n + cap ≤ R.slots) (q : Nat) (hq : pc + 2 = q)
    (g : ∀ h' a, a = h.size → Ext h h' → AI Z h' a ty (List.replicate i (defaultValue ty)) → Ok W R n0 Q h' (k + 1) (n + cap) q Ls (.ref a :: st)) : Ok W R n0 Q h k n pc Ls (.int z :: st) := fun T locs X e N => by
  subst hq hty
  obtain ⟨z1, z2⟩ := own_nat hz
  obtain ⟨T', h', cA, X', e', E', A', st'⟩ := newP X C.1 C.2.1 w e (g := mkF W.m pc Ls.toArray (.int z :: st)) rfl (hb C.2.2.1 hd) rfl z2 (cap := cap) (by omega) hb2 hc hl
  obtain ⟨s₂, o, S, r⟩ := g h' _ rfl E' ⟨_, A', by simp [newA, z1]⟩ T' _ X' e' N
  exact ⟨s₂, o, st' _ S, r⟩
theorem Ok.arraylength (C : Cx W Z own nm bc maxL rt) {a : Addr} {ty : FieldType} {vs : List Value} (hd : decode bc pc = .ok (.arraylength, 1)) (F : AI Z h a ty vs) (z : Int32) (hz : vs.length.toInt32 = z) (q : Nat) (hq : pc + 1 = q) (g : Ok W R n0 Q h k n q Ls (.int z :: st)) : Ok W R n0 Q h k n pc Ls (.ref a :: st) := by
  subst hq hz
  obtain ⟨c, A, hc⟩ := F
  have hs : c.slots.size = vs.length := by rw [hc]; simp
  rw [← hs] at g
  exact g.back fun T locs X e t s => X.arraylength C.1 (by rw [e]; exact A.1) (State.isArrayOf_alike C.2.1.alike A.2.1) (g := mkF W.m pc Ls.toArray (.ref a :: st)) rfl rfl (hb C.2.2.1 hd) t s
theorem Ok.iaload (C : Cx W Z own nm bc maxL rt) {a : Addr} {j : Int32} {v : Value} {vs : List Value} (hd : decode bc pc = .ok (.iaload, 1)) (F : AI Z h a .int vs) (i : Nat) (hj : j.toInt = i) (hv : vs[i]? = some v) (q : Nat) (hq : pc + 1 = q) (g : Ok W R n0 Q h k n q Ls (v :: st)) : Ok W R n0 Q h k n pc Ls (.int j :: .ref a :: st) := by
  subst hq
  obtain ⟨c, A, hc⟩ := F
  exact g.back fun T locs X e t s => X.iaload C.1 (j := j) (v := v) (by rw [e]; exact A.1) (State.isArrayOf_alike C.2.1.alike A.2.1) A.2.2 (own_in hj hc (own_bd hv)) (own_at hj hc hv) (g := mkF W.m pc Ls.toArray (.int j :: .ref a :: st)) rfl rfl (hb C.2.2.1 hd) t s
theorem Ok.laload (C : Cx W Z own nm bc maxL rt) {a : Addr} {j : Int32} {v : Value} {vs : List Value} (hd : decode bc pc = .ok (.laload, 1)) (F : AI Z h a .long vs) (i : Nat) (hj : j.toInt = i) (hv : vs[i]? = some v) (q : Nat) (hq : pc + 1 = q) (g : Ok W R n0 Q h k n q Ls (v :: st)) : Ok W R n0 Q h k n pc Ls (.int j :: .ref a :: st) := by
  subst hq
  obtain ⟨c, A, hc⟩ := F
  exact g.back fun T locs X e t s => X.laload C.1 (j := j) (v := v) (by rw [e]; exact A.1) (State.isArrayOf_alike C.2.1.alike A.2.1) A.2.2 (own_in hj hc (own_bd hv)) (own_at hj hc hv) (g := mkF W.m pc Ls.toArray (.int j :: .ref a :: st)) rfl rfl (hb C.2.2.1 hd) t s
theorem Ok.baload (C : Cx W Z own nm bc maxL rt) {a : Addr} {j : Int32} {v : Value} {vs : List Value} (hd : decode bc pc = .ok (.baload, 1)) (F : AI Z h a .byte vs) (i : Nat) (hj : j.toInt = i) (hv : vs[i]? = some v) (q : Nat) (hq : pc + 1 = q) (g : Ok W R n0 Q h k n q Ls (v :: st)) : Ok W R n0 Q h k n pc Ls (.int j :: .ref a :: st) := by
  subst hq
  obtain ⟨c, A, hc⟩ := F
  exact g.back fun T locs X e t s => X.baloadBytes C.1 (j := j) (v := v) (by rw [e]; exact A.1) (State.isArrayOf_alike C.2.1.alike A.2.1) A.2.2 (own_in hj hc (own_bd hv)) (own_at hj hc hv) (g := mkF W.m pc Ls.toArray (.int j :: .ref a :: st)) rfl rfl (hb C.2.2.1 hd) t s
theorem Ok.zaload (C : Cx W Z own nm bc maxL rt) {a : Addr} {j : Int32} {v : Value} {vs : List Value} (hd : decode bc pc = .ok (.baload, 1)) (F : AI Z h a .boolean vs) (i : Nat) (hj : j.toInt = i) (hv : vs[i]? = some v) (q : Nat) (hq : pc + 1 = q) (g : Ok W R n0 Q h k n q Ls (v :: st)) : Ok W R n0 Q h k n pc Ls (.int j :: .ref a :: st) := by
  subst hq
  obtain ⟨c, A, hc⟩ := F
  exact g.back fun T locs X e t s => X.baloadBooleans C.1 (j := j) (v := v) (by rw [e]; exact A.1) (State.isArrayOf_alike C.2.1.alike A.2.1) A.2.2 (own_in hj hc (own_bd hv)) (own_at hj hc hv) (g := mkF W.m pc Ls.toArray (.int j :: .ref a :: st)) rfl rfl (hb C.2.2.1 hd) t s
theorem Ok.iastore (C : Cx W Z own nm bc maxL rt) {a : Addr} {j : Int32} {x : Int32} {vs : List Value} (hd : decode bc pc = .ok (.iastore, 1)) (F : AI Z h a .int vs) (i : Nat) (hj : j.toInt = i) (hi : i < vs.length) (hN : n0 ≤ a) (q : Nat) (hq : pc + 1 = q) (g : ∀ h', Wr h h' a i (.int x) → AI Z h' a .int (vs.set i (.int x)) → Ok W R n0 Q h' k n q Ls st) : Ok W R n0 Q h k n pc Ls (.int x :: .int j :: .ref a :: st) := fun T locs X e N => by
  subst hq
  obtain ⟨c, A, hc⟩ := F
  obtain ⟨T', h', X', e', Wr', st'⟩ := stI X C.1 C.2.1 e A (j := j) (x := x) (own_in hj hc hi) (g := mkF W.m pc Ls.toArray (.int x :: .int j :: .ref a :: st)) rfl rfl (hb C.2.2.1 hd)
  have N' := Fr.snoc X' N hN
  rw [(own_nat hj).1] at Wr'
  obtain ⟨s₂, o, S, r⟩ := g h' Wr' (AI.same ⟨c, A, hc⟩ Wr') T' _ X' e' N'
  exact ⟨s₂, o, st' _ S, r⟩
theorem Ok.lastore (C : Cx W Z own nm bc maxL rt) {a : Addr} {j : Int32} {x : Int64} {vs : List Value} (hd : decode bc pc = .ok (.lastore, 1)) (F : AI Z h a .long vs) (i : Nat) (hj : j.toInt = i) (hi : i < vs.length) (hN : n0 ≤ a) (q : Nat) (hq : pc + 1 = q) (g : ∀ h', Wr h h' a i (.long x) → AI Z h' a .long (vs.set i (.long x)) → Ok W R n0 Q h' k n q Ls st) : Ok W R n0 Q h k n pc Ls (.long x :: .int j :: .ref a :: st) := fun T locs X e N => by
  subst hq
  obtain ⟨c, A, hc⟩ := F
  obtain ⟨T', h', X', e', Wr', st'⟩ := stJ X C.1 C.2.1 e A (j := j) (x := x) (own_in hj hc hi) (g := mkF W.m pc Ls.toArray (.long x :: .int j :: .ref a :: st)) rfl rfl (hb C.2.2.1 hd)
  have N' := Fr.snoc X' N hN
  rw [(own_nat hj).1] at Wr'
  obtain ⟨s₂, o, S, r⟩ := g h' Wr' (AI.same ⟨c, A, hc⟩ Wr') T' _ X' e' N'
  exact ⟨s₂, o, st' _ S, r⟩
theorem Ok.bastore (C : Cx W Z own nm bc maxL rt) {a : Addr} {j : Int32} {x : Int32} {vs : List Value} (hd : decode bc pc = .ok (.bastore, 1)) (F : AI Z h a .byte vs) (i : Nat) (hj : j.toInt = i) (hi : i < vs.length) (hN : n0 ≤ a) (q : Nat) (hq : pc + 1 = q) (g : ∀ h', Wr h h' a i (.int (x.toInt8.toInt32)) → AI Z h' a .byte (vs.set i (.int (x.toInt8.toInt32))) → Ok W R n0 Q h' k n q Ls st) : Ok W R n0 Q h k n pc Ls (.int x :: .int j :: .ref a :: st) := fun T locs X e N => by
  subst hq
  obtain ⟨c, A, hc⟩ := F
  obtain ⟨T', h', X', e', Wr', st'⟩ := stB X C.1 C.2.1 e A (j := j) (x := x) (own_in hj hc hi) (g := mkF W.m pc Ls.toArray (.int x :: .int j :: .ref a :: st)) rfl rfl (hb C.2.2.1 hd)
  have N' := Fr.snoc X' N hN
  rw [(own_nat hj).1] at Wr'
  obtain ⟨s₂, o, S, r⟩ := g h' Wr' (AI.same ⟨c, A, hc⟩ Wr') T' _ X' e' N'
  exact ⟨s₂, o, st' _ S, r⟩
theorem Ok.zastore (C : Cx W Z own nm bc maxL rt) {a : Addr} {j : Int32} {x : Int32} {vs : List Value} (hd : decode bc pc = .ok (.bastore, 1)) (F : AI Z h a .boolean vs) (i : Nat) (hj : j.toInt = i) (hi : i < vs.length) (hN : n0 ≤ a) (q : Nat) (hq : pc + 1 = q) (g : ∀ h', Wr h h' a i (.int (x &&& 1)) → AI Z h' a .boolean (vs.set i (.int (x &&& 1))) → Ok W R n0 Q h' k n q Ls st) : Ok W R n0 Q h k n pc Ls (.int x :: .int j :: .ref a :: st) := fun T locs X e N => by
  subst hq
  obtain ⟨c, A, hc⟩ := F
  obtain ⟨T', h', X', e', Wr', st'⟩ := stZ X C.1 C.2.1 e A (j := j) (x := x) (own_in hj hc hi) (g := mkF W.m pc Ls.toArray (.int x :: .int j :: .ref a :: st)) rfl rfl (hb C.2.2.1 hd)
  have N' := Fr.snoc X' N hN
  rw [(own_nat hj).1] at Wr'
  obtain ⟨s₂, o, S, r⟩ := g h' Wr' (AI.same ⟨c, A, hc⟩ Wr') T' _ X' e' N'
  exact ⟨s₂, o, st' _ S, r⟩
/-! the end -/
theorem Ok.fin {T : State} {locs : List Loc} {v : Option Value} (C : Cx W Z own nm bc maxL rt) (hv : rt = none → v = none) (X : Stand W.p W.l W.e R W.s W.m W.args W.below W.meth W.c T locs k n) (e : T.heap = h) (N : Fr n0 locs) (hk : k ≤ R.cells) (hn : n ≤ R.slots) (hQ : Q v h) {f : State}
    (hst : ∀ fs, (∀ (f : JFrame) (acts : List Action), f.method = W.m → f.locked = none → f.entered = [] → (doReturn W.e (T.setTop f) acts v).1 = T.setFrames fs) → Steps W.p.tables W.e W.below f (T.setFrames fs)) :
    ∃ s₂ o, Steps W.p.tables W.e W.below f s₂ ∧ s₂.status = .running ∧ Ended s₂ W.below o ∧ ∃ v L, o = .returned v ∧ (Q v s₂.heap ∧ Fr n0 L) ∧ FrameEnd W.s o s₂ L R.cells R.slots := by
  obtain ⟨fs, hr, hrun, hended, hW, hsame⟩ := X.leave (v := v) (fun z => hv (C.2.2.2.2.2.1.symm.trans z)) C.2.2.2.2.2.2.1
  have hQ' : Q v (T.setFrames fs).heap := by show Q v T.heap; rw [e]; exact hQ
  exact ⟨_, _, hst fs hr, hrun, hended, _, _, rfl, ⟨hQ', N⟩, ⟨_, rfl⟩, hW, hsame.mono hk hn⟩
theorem Ok.ireturn (C : Cx W Z own nm bc maxL (some .int)) {x : Int32} (hd : decode bc pc = .ok (.ireturn, 1)) (hk : k ≤ R.cells) (hn : n ≤ R.slots) (hQ : Q (some (.int x)) h) : Ok W R n0 Q h k n pc Ls (.int x :: st) := fun T locs X e N =>
  Ok.fin C (fun z => by cases z) X e N hk hn hQ fun fs hr => retOut X C.1 C.2.2.2.2.2.1 rfl (Or.inl ⟨rfl, Or.inl rfl, _, rfl⟩) (hb C.2.2.1 hd) hr
theorem Ok.zreturn (C : Cx W Z own nm bc maxL (some .boolean)) {x : Int32} (hd : decode bc pc = .ok (.ireturn, 1)) (hk : k ≤ R.cells) (hn : n ≤ R.slots) (hQ : Q (some (.int (x &&& 1))) h) : Ok W R n0 Q h k n pc Ls (.int x :: st) := fun T locs X e N =>
  Ok.fin C (fun z => by cases z) X e N hk hn hQ fun fs hr => retN X C.1 (t := .boolean) C.2.2.2.2.2.1 (Or.inl rfl) (hb C.2.2.1 hd) hr
theorem Ok.lreturn (C : Cx W Z own nm bc maxL (some .long)) {x : Int64} (hd : decode bc pc = .ok (.lreturn, 1)) (hk : k ≤ R.cells) (hn : n ≤ R.slots) (hQ : Q (some (.long x)) h) : Ok W R n0 Q h k n pc Ls (.long x :: st) := fun T locs X e N =>
  Ok.fin C (fun z => by cases z) X e N hk hn hQ fun fs hr => retOut X C.1 C.2.2.2.2.2.1 rfl (Or.inr (Or.inl ⟨rfl, rfl, _, rfl⟩)) (hb C.2.2.1 hd) hr
theorem Ok.vreturn (C : Cx W Z own nm bc maxL none) (hd : decode bc pc = .ok (.return_, 1)) (hk : k ≤ R.cells) (hn : n ≤ R.slots) (hQ : Q none h) : Ok W R n0 Q h k n pc Ls [] := fun T locs X e N =>
  Ok.fin C (fun _ => rfl) X e N hk hn hQ fun fs hr => X.returnOut C.1 C.2.2.2.2.2.1 (hb C.2.2.1 hd) hr
/-! calls -/
/-- the method y, called with as' over the heap h, returns with Q -/
def Does (l : Launch) (Z : State) (y : MethodName) (bytes : ByteArray) (mL : Nat) (rt : Option FieldType) (rm : Room) (as' : Array Value) (h : Heap) (n0 : Nat) (Q : Option Value → Heap → Prop) : Prop :=
  MetFree l y (head1 [Jvm.Cond.code y bytes mL rt] rm) (fun a U => a = as' ∧ Z.Warmed39 U.vm ∧ U.heap = h) (fun _ _ _ _ _ => True) (fun _ U o U' => ∃ v L, o = .returned v ∧ (Q v U'.heap ∧ Fr n0 L) ∧ FrameEnd U o U' L rm.cells rm.slots)
def DoesW (l : Launch) (Z : State) (y : MethodName) (bytes : ByteArray) (mL : Nat) (rt : Option FieldType) (rm : Room) (ws : List Jvm.Cond) (as' : Array Value) (h : Heap) (n0 : Nat) (Q : Option Value → Heap → Prop) : Prop :=
  MetFree l y (head1 (Jvm.Cond.code y bytes mL rt :: ws) rm) (fun a U => a = as' ∧ Z.Warmed39 U.vm ∧ U.heap = h) (fun _ _ _ _ _ => True) (fun _ U o U' => ∃ v L, o = .returned v ∧ (Q v U'.heap ∧ Fr n0 L) ∧ FrameEnd U o U' L rm.cells rm.slots)
theorem DoesW.of_body {l : Launch} {y : MethodName} {bytes : ByteArray} {mL : Nat} {rm : Room} {ws : List Jvm.Cond} {as' : Array Value} (hpl : plainFor y = true) (Ls0 : List Slot) (ef : ∀ m, entryFrame m as' mL = mkF m 0 Ls0.toArray [])
    (g : ∀ W : Wd, W.l = l → Cx W Z y.cls y.name bytes mL rt → Ok W rm n0 Q h 0 0 0 Ls0 []) : DoesW l Z y bytes mL rt rm ws as' h n0 Q := by
  unfold DoesW
  refine MetFree.of_bodySF hpl hisR ?_
  intro p e s m args below meth c s₁ Bd hml0 hP hK
  obtain ⟨rfl, hZ, hh⟩ := hP
  have X0 : Stand p l e rm s m args below meth c s₁ [] 0 0 := Stand.of_body Bd
  have e0 : s₁.heap = h := by rw [← hh, Bd.state]; rfl
  obtain ⟨s₂, o, S, r⟩ := g (p, l, e, s, m, args, below, meth, c) rfl ⟨Bd.exec, hZ, Bd.bytes, hml0, findClass_of_methodNamed Bd.named, Bd.returns, Bd.notSynchronized, (name_of_methodNamed Bd.named Bd.method).1⟩ s₁ [] X0 e0 (Fr.nil n0)
  exact ⟨s₂, o, castTop (ef m) S, r⟩
theorem Does.of_body {l : Launch} {y : MethodName} {bytes : ByteArray} {mL : Nat} {rm : Room} {as' : Array Value} (hpl : plainFor y = true) (Ls0 : List Slot) (ef : ∀ m, entryFrame m as' mL = mkF m 0 Ls0.toArray [])
    (g : ∀ W : Wd, W.l = l → Cx W Z y.cls y.name bytes mL rt → Ok W rm n0 Q h 0 0 0 Ls0 []) : Does l Z y bytes mL rt rm as' h n0 Q := DoesW.of_body (ws := []) hpl Ls0 ef g
theorem own_after {v : Option Value} {q : Nat} {rest : List Value} {rm : Room} {T : State} {locs L : List Loc} {h' : Heap} (g : Ok W R n0 Q h' (k + rm.cells) (n + rm.slots) q Ls (v.toList ++ rest)) (N : Fr n0 locs) (N' : Fr n0 L) (X : Stand W.p W.l W.e R W.s W.m W.args W.below W.meth W.c T (locs ++ L) (k + rm.cells) (n + rm.slots)) (e : T.heap = h') :
    ∃ s₂ o, Steps W.p.tables W.e W.below (T.setTop (mkF W.m q Ls.toArray (v.toList ++ rest))) s₂ ∧ s₂.status = .running ∧ Ended s₂ W.below o ∧ ∃ v L, o = .returned v ∧ (Q v s₂.heap ∧ Fr n0 L) ∧ FrameEnd W.s o s₂ L R.cells R.slots := g T _ X e (N.app N')
theorem Ok.callStatic (C : Cx W Z own nm bc maxL rt) {i : Nat} {y : MethodName} {bytes : ByteArray} {mL : Nat} {rt' : Option FieldType} {rm : Room} {ps : List FieldType} {Q' : Option Value → Heap → Prop} (argsL rest : List Value) (hs : st = argsL.reverse ++ rest)
    (w1 : (Jvm.Cond.methodLink own i y).before a0 Z = true) (w2 : (Jvm.Cond.static y).before a0 Z = true) (w3 : (Jvm.Cond.initialized y.cls).before a0 Z = true) (w4 : (Jvm.Cond.code y bytes mL rt').before a0 Z = true) (hd : decode bc pc = .ok (.invokestatic i, 3))
    (hm : y.cls ≠ "java/lang/invoke/MethodHandle" ∧ y.cls ≠ "java/lang/invoke/VarHandle") (pd : parseMethodDescriptor y.desc = some ⟨ps, rt'⟩) (hlen : argsL.length = ps.length) (hsz : Ls.length = maxL)
    (D : Does W.l Z y bytes mL rt' rm argsL.toArray h n0 Q') (hf : rm.frames + 1 ≤ R.frames) (wt : Nat) (hwt : (rest.map fun v => v.category).sum = wt) (hl : wt + (mL + 11) + rm.locals ≤ R.locals) (hc : k + rm.cells ≤ R.cells) (hsl : n + rm.slots ≤ R.slots) (q : Nat) (hq : pc + 3 = q)
    (g : ∀ v h', Q' v h' → Ok W R n0 Q h' (k + rm.cells) (n + rm.slots) q Ls (v.toList ++ rest)) : Ok W R n0 Q h k n pc Ls st := fun T locs X e N => by
  subst hq hs
  obtain ⟨v, vm1, ⟨T', L', k', n'⟩, -, X', ⟨Lc, hQ, l1, y1, z1⟩, st'⟩ := Jvm.LawKit.callS X C.1 (y := y) C.2.2.2.2.1 (mvT C.2.1 w1) (mvT C.2.1 w2) (mvT C.2.1 w3) (mvT C.2.1 w4) hm (backOf (W := wt) (R := R) (Q := fun v h L => Q' v h ∧ Fr n0 L) D C.2.1 w4 w3 hf hl) (g := mkF W.m pc Ls.toArray (argsL.reverse ++ rest)) rfl (by rw [C.2.2.2.1, ← hsz]; simp) (argsL := argsL) (rest := rest) (lenOf pd hlen) rfl (by show 2 * 0 + _ ≤ _; omega) (hb C.2.2.1 hd) (fun _ _ => ⟨rfl, e, hc, hsl⟩)
  dsimp only [Pt.U, Pt.locs, Pt.cells, Pt.slots] at X' l1 y1 z1 st' hQ
  subst l1 y1 z1
  obtain ⟨s₂, o, S, r⟩ := own_after (g v _ hQ.1) N hQ.2 X' rfl
  exact ⟨s₂, o, st' _ S, r⟩
theorem Ok.callInit (C : Cx W Z own nm bc maxL rt) {i : Nat} {y : MethodName} {bytes : ByteArray} {mL : Nat} {rm : Room} {ps : List FieldType} {Q' : Option Value → Heap → Prop} {a : Addr} (argsL rest : List Value) (hs : st = argsL.reverse ++ .ref a :: rest) (hy1 : y.name = "<init>")
    (w1 : (Jvm.Cond.methodLink own i y).before a0 Z = true) (w2 : (Jvm.Cond.instanceMethod y).before a0 Z = true) (w3 : (Jvm.Cond.initialized y.cls).before a0 Z = true) (w4 : (Jvm.Cond.code y bytes mL none).before a0 Z = true) (hd : decode bc pc = .ok (.invokespecial i, 3))
    (hm : y.cls ≠ "java/lang/invoke/MethodHandle" ∧ y.cls ≠ "java/lang/invoke/VarHandle") (pd : parseMethodDescriptor y.desc = some ⟨ps, none⟩) (hlen : argsL.length = ps.length) (hsz : Ls.length = maxL)
    (D : Does W.l Z y bytes mL none rm (.ref a :: argsL).toArray h n0 Q') (hf : rm.frames + 1 ≤ R.frames) (wt : Nat) (hwt : (rest.map fun v => v.category).sum = wt) (hl : wt + (mL + 11) + rm.locals ≤ R.locals) (hc : k + rm.cells ≤ R.cells) (hsl : n + rm.slots ≤ R.slots) (q : Nat) (hq : pc + 3 = q)
    (g : ∀ v h', Q' v h' → Ok W R n0 Q h' (k + rm.cells) (n + rm.slots) q Ls (v.toList ++ rest)) : Ok W R n0 Q h k n pc Ls st := fun T locs X e N => by
  subst hq hs
  obtain ⟨v, vm1, ⟨T', L', k', n'⟩, -, X', ⟨Lc, hQ, l1, y1, z1⟩, st'⟩ := X.specialBack C.1 (y := y) hy1 C.2.2.2.2.1 (mvT C.2.1 w1) (mvT C.2.1 w2) (mvT C.2.1 w4) hm (backOf (W := wt) (R := R) (Q := fun v h L => Q' v h ∧ Fr n0 L) D C.2.1 w4 w3 hf hl) (g := mkF W.m pc Ls.toArray (argsL.reverse ++ .ref a :: rest)) rfl (by rw [C.2.2.2.1, ← hsz]; simp) (Steps.refl _) (a := a) (argsL := argsL) (rest := rest) (lenOf pd hlen) rfl (by show 2 * 0 + _ ≤ _; omega) (hb C.2.2.1 hd) (fun _ _ => ⟨rfl, e, hc, hsl⟩)
  dsimp only [Pt.U, Pt.locs, Pt.cells, Pt.slots] at X' l1 y1 z1 st' hQ
  subst l1 y1 z1
  obtain ⟨s₂, o, S, r⟩ := own_after (g v _ hQ.1) N hQ.2 X' rfl
  exact ⟨s₂, o, st'.trans S, r⟩
theorem Ok.callVirtual (C : Cx W Z own nm bc maxL rt) {i : Nat} {y : MethodName} {bytes : ByteArray} {mL : Nat} {rt' : Option FieldType} {rm : Room} {ps : List FieldType} {Q' : Option Value → Heap → Prop} {a : Addr} (argsL rest : List Value) (hs : st = argsL.reverse ++ .ref a :: rest)
    (w1 : (Jvm.Cond.methodLink own i y).before a0 Z = true) (w2 : (Jvm.Cond.declares y).before a0 Z = true) (w5 : (Jvm.Cond.selects y.cls y y).before a0 Z = true) (w6 : (Jvm.Cond.instanceMethod y).before a0 Z = true) (w3 : (Jvm.Cond.initialized y.cls).before a0 Z = true) (w4 : (Jvm.Cond.code y bytes mL rt').before a0 Z = true) (hd : decode bc pc = .ok (.invokevirtual i, 3))
    (hm : y.cls ≠ "java/lang/invoke/MethodHandle" ∧ y.cls ≠ "java/lang/invoke/VarHandle") (pd : parseMethodDescriptor y.desc = some ⟨ps, rt'⟩) (hlen : argsL.length = ps.length) (hsz : Ls.length = maxL) (E : Exa Z h a y.cls)
    (D : Does W.l Z y bytes mL rt' rm (.ref a :: argsL).toArray h n0 Q') (hf : rm.frames + 1 ≤ R.frames) (wt : Nat) (hwt : (rest.map fun v => v.category).sum = wt) (hl : wt + (mL + 11) + rm.locals ≤ R.locals) (hc : k + rm.cells ≤ R.cells) (hsl : n + rm.slots ≤ R.slots) (q : Nat) (hq : pc + 3 = q)
    (g : ∀ v h', Q' v h' → Ok W R n0 Q h' (k + rm.cells) (n + rm.slots) q Ls (v.toList ++ rest)) : Ok W R n0 Q h k n pc Ls st := fun T locs X e N => by
  subst hq hs
  obtain ⟨cq, kq, qa, qb, qc⟩ := isOf (T := T) C.2.1 e E
  obtain ⟨v, vm1, ⟨T', L', k', n'⟩, -, X', ⟨Lc, hQ, l1, y1, z1⟩, st'⟩ := X.virtualBack C.1 (y := y) (z := y) C.2.2.2.2.1 (mvT C.2.1 w1) (mvT C.2.1 w2) (notFace_of_selects (args := #[]) (mvT C.2.1 w5)) (mvT C.2.1 w5) (mvT C.2.1 w6) hm (backOf (W := wt) (R := R) (Q := fun v h L => Q' v h ∧ Fr n0 L) D C.2.1 w4 w3 hf hl) qa qc (g := mkF W.m pc Ls.toArray (argsL.reverse ++ .ref a :: rest)) rfl (by rw [C.2.2.2.1, ← hsz]; simp) (Steps.refl _) (argsL := argsL) (rest := rest) (lenOf pd hlen) rfl (by show 2 * 0 + _ ≤ _; omega) (hb C.2.2.1 hd) (fun _ _ => ⟨rfl, e, hc, hsl⟩)
  dsimp only [Pt.U, Pt.locs, Pt.cells, Pt.slots] at X' l1 y1 z1 st' hQ
  subst l1 y1 z1
  obtain ⟨s₂, o, S, r⟩ := own_after (g v _ hQ.1) N hQ.2 X' rfl
  exact ⟨s₂, o, st'.trans S, r⟩
theorem own_selects {a : Array Value} {s : State} {y0 y : MethodName} (hs : (Jvm.Cond.selects y0.cls y0 y0).before a s = true) (hi : (Jvm.Cond.instanceMethod y).before a s = true) (hp : (Jvm.Cond.privateMethod y).before a s = true) (hc : y.cls = y0.cls) (hm : y.cls ≠ "java/lang/invoke/MethodHandle" ∧ y.cls ≠ "java/lang/invoke/VarHandle") : (Jvm.Cond.selects y.cls y y).before a s = true := by
  obtain ⟨c, r, m, h1, h2, h3, h4, kk, h5, h6⟩ := Cond.selects_spec hs
  obtain ⟨mk, methM, hn, hmm, -, -⟩ := Cond.instanceMethod_spec hi
  have e1 : s.vm.findClass y0.cls = some m.cls := findClass_of_methodNamed h3
  have e2 : s.vm.findClass y.cls = some mk.cls := findClass_of_methodNamed hn
  have e3 : mk.cls = m.cls := by rw [hc, e1] at e2; exact (Option.some.inj e2).symm
  have hf := State.methodFound?_of_named hn hm
  have hsel : selectMethod {} s.vm mk.cls mk = .method mk := selectMethod_private hmm (Cond.privateMethod_at hp mk methM hn hmm)
  have hk : s.vm.classes[mk.cls]? = some kk := by rw [e3]; exact h5
  simp [Cond.before, Cond.holds, Cond.value, e2, hf, hn, hsel, hk, h6]
theorem Ok.callPrivate (C : Cx W Z own nm bc maxL rt) {i : Nat} {y y0 : MethodName} {bytes : ByteArray} {mL : Nat} {rt' : Option FieldType} {rm : Room} {ps : List FieldType} {Q' : Option Value → Heap → Prop} {a : Addr} (argsL rest : List Value) (hs : st = argsL.reverse ++ .ref a :: rest)
    (w1 : (Jvm.Cond.methodLink own i y).before a0 Z = true) (w6 : (Jvm.Cond.instanceMethod y).before a0 Z = true) (w7 : (Jvm.Cond.privateMethod y).before a0 Z = true) (w5 : (Jvm.Cond.selects y0.cls y0 y0).before a0 Z = true) (hcc : y.cls = y0.cls) (w3 : (Jvm.Cond.initialized y.cls).before a0 Z = true) (w4 : (Jvm.Cond.code y bytes mL rt').before a0 Z = true) (hd : decode bc pc = .ok (.invokevirtual i, 3))
    (hm : y.cls ≠ "java/lang/invoke/MethodHandle" ∧ y.cls ≠ "java/lang/invoke/VarHandle") (pd : parseMethodDescriptor y.desc = some ⟨ps, rt'⟩) (hlen : argsL.length = ps.length) (hsz : Ls.length = maxL) (E : Exa Z h a y.cls)
    (D : Does W.l Z y bytes mL rt' rm (.ref a :: argsL).toArray h n0 Q') (hf : rm.frames + 1 ≤ R.frames) (wt : Nat) (hwt : (rest.map fun v => v.category).sum = wt) (hl : wt + (mL + 11) + rm.locals ≤ R.locals) (hc : k + rm.cells ≤ R.cells) (hsl : n + rm.slots ≤ R.slots) (q : Nat) (hq : pc + 3 = q)
    (g : ∀ v h', Q' v h' → Ok W R n0 Q h' (k + rm.cells) (n + rm.slots) q Ls (v.toList ++ rest)) : Ok W R n0 Q h k n pc Ls st := fun T locs X e N => by
  subst hq hs
  obtain ⟨cq, q1, q2⟩ := E.cell
  obtain ⟨v, vm1, ⟨T', L', k', n'⟩, -, X', ⟨Lc, hQ, l1, y1, z1⟩, st'⟩ := X.privateBack C.1 (y := y) C.2.2.2.2.1 (mvT C.2.1 w1) (mvT C.2.1 w6) (mvT C.2.1 (own_selects w5 w6 w7 hcc hm)) (Cond.privateMethod_at (mvP C.2.1 w7 (args := #[]))) (mvT C.2.1 w4) hm (backOf (W := wt) (R := R) (Q := fun v h L => Q' v h ∧ Fr n0 L) D C.2.1 w4 w3 hf hl) (g := mkF W.m pc Ls.toArray (argsL.reverse ++ .ref a :: rest)) rfl (by rw [C.2.2.2.1, ← hsz]; simp) (Steps.refl _) (a := a) (by rw [e]; exact q1) q2 (argsL := argsL) (rest := rest) (lenOf pd hlen) rfl (by show 2 * 0 + _ ≤ _; omega) (hb C.2.2.1 hd) (fun _ _ => ⟨rfl, e, hc, hsl⟩)
  dsimp only [Pt.U, Pt.locs, Pt.cells, Pt.slots] at X' l1 y1 z1 st' hQ
  subst l1 y1 z1
  obtain ⟨s₂, o, S, r⟩ := own_after (g v _ hQ.1) N hQ.2 X' rfl
  exact ⟨s₂, o, st'.trans S, r⟩
/-! numbers -/
theorem own_add {t x y : Int32} (e : t = x + y) (h1 : -2147483648 ≤ x.toInt + y.toInt) (h2 : x.toInt + y.toInt < 2147483648) : t.toInt = x.toInt + y.toInt := by
  have := c_iadd x y; have := rng32 (x + y); subst e; omega
theorem own_sub {t x y : Int32} (e : t = x - y) (h1 : -2147483648 ≤ x.toInt - y.toInt) (h2 : x.toInt - y.toInt < 2147483648) : t.toInt = x.toInt - y.toInt := by
  have := c_isub x y; have := rng32 (x - y); subst e; omega
theorem own_lsub {t x y : Int64} (e : t = x - y) (h1 : -9223372036854775808 ≤ x.toInt - y.toInt) (h2 : x.toInt - y.toInt < 9223372036854775808) : t.toInt = x.toInt - y.toInt := by
  have := c_lsub x y; have := rng64 (x - y); subst e; omega
theorem own_ladd {t x y : Int64} (e : t = x + y) (h1 : -9223372036854775808 ≤ x.toInt + y.toInt) (h2 : x.toInt + y.toInt < 9223372036854775808) : t.toInt = x.toInt + y.toInt := by
  have := c_ladd x y; have := rng64 (x + y); subst e; omega
theorem own_one : (1 &&& 1 : Int32) = 1 := rfl
theorem own_zero : (0 &&& 1 : Int32) = 0 := rfl
end Own
theorem own_w {Z : State} {a0 : Array Value} (hw : ∀ d ∈ tables_1, d.before a0 Z = true) (i : Nat) {d : Jvm.Cond} (e : tables_1[i]? = some d) : d.before a0 Z = true := hw d (List.mem_of_getElem? e)
def own_dz (m : Nat) : Nat := if h : m = 0 then 0 else own_dz (m / 10) + 1
termination_by m
decreasing_by omega
def own_dg (m : Nat) : Nat := own_dz (m / 10) + 1
theorem own_dz0 : own_dz 0 = 0 := by rw [own_dz]; simp
theorem own_dzs {m : Nat} (h : m ≠ 0) : own_dz m = own_dz (m / 10) + 1 := by rw [own_dz]; simp [h]
theorem own_dz_lt (m : Nat) : m < 10 ^ own_dz m := by
  induction m using Nat.strongRecOn with
  | ind m ih =>
    by_cases h : m = 0
    · subst h; rw [own_dz0]; decide
    · rw [own_dzs h, Nat.pow_succ]
      have := ih (m / 10) (by omega)
      omega
theorem own_dz_le : ∀ (i m : Nat), m < 10 ^ i → own_dz m ≤ i
  | 0, m, h => by
    have : m = 0 := by simpa using h
    subst this; rw [own_dz0]; exact Nat.le_refl _
  | i + 1, m, h => by
    by_cases h0 : m = 0
    · subst h0; rw [own_dz0]; omega
    · rw [own_dzs h0]
      have := own_dz_le i (m / 10) (by rw [Nat.pow_succ] at h; omega)
      omega
theorem own_dg_lt (m : Nat) : m < 10 ^ own_dg m := by
  have := own_dz_lt (m / 10); unfold own_dg; rw [Nat.pow_succ]; omega
theorem own_dg_le {m i : Nat} (h : m < 10 ^ (i + 1)) : own_dg m ≤ i + 1 := by
  have := own_dz_le i (m / 10) (by rw [Nat.pow_succ] at h; omega); unfold own_dg; omega
theorem own_dg_ge {m i : Nat} (h : 10 ^ i ≤ m) : i + 1 ≤ own_dg m := by
  have h1 := own_dg_lt m
  have h2 : 10 ^ i < 10 ^ own_dg m := Nat.lt_of_le_of_lt h h1
  exact (Nat.pow_lt_pow_iff_right (by decide)).mp h2
theorem own_dgb {a b : Nat} (m i : Nat) (ha : 10 ^ i = a) (hb : 10 ^ (i + 1) = b) : (a ≤ m → i + 1 ≤ own_dg m) ∧ (m < b → own_dg m ≤ i + 1) := by
  subst ha hb; exact ⟨own_dg_ge, own_dg_le⟩
theorem own_dg1 (m : Nat) : 1 ≤ own_dg m := by unfold own_dg; omega
theorem own_shift (m k : Nat) : m / 10 ^ (k + 1) = m / 10 ^ k / 10 := by rw [Nat.pow_succ, Nat.div_div_eq_div_mul]
def own_P (m E J : Nat) (vs : List Value) : Prop := vs.length = 27 ∧ ∀ i, i < 27 → (J ≤ i ∧ i < E → ∃ z : Int32, vs[i]? = some (.int z) ∧ z.toInt = ((48 + m / 10 ^ (E - (i + 1)) % 10 : Nat) : Int)) ∧ (¬ (J ≤ i ∧ i < E) → vs[i]? = some (.int 0))
theorem own_Pstep {m E J : Nat} {vs : List Value} {z : Int32} (h : own_P m E (J + 1) vs) (hJ : J < E) (hE : E ≤ 26) (hz : z.toInt = ((48 + m / 10 ^ (E - (J + 1)) % 10 : Nat) : Int)) : own_P m E J (vs.set J (.int z)) := by
  obtain ⟨hl, h⟩ := h
  refine ⟨by simpa using hl, fun i hi => ?_⟩
  by_cases e : i = J
  · subst e
    refine ⟨fun _ => ⟨z, List.getElem?_set_self (by omega), hz⟩, fun h' => absurd ⟨Nat.le_refl _, hJ⟩ h'⟩
  · rw [List.getElem?_set_ne (fun q => e q.symm)]
    exact ⟨fun h' => (h i hi).1 (by omega), fun h' => (h i hi).2 (by omega)⟩
theorem own_P0 (m E : Nat) : own_P m E E (List.replicate 27 (.int 0)) := by
  refine ⟨by simp, fun i hi => ⟨fun h => by omega, fun _ => by rw [List.getElem?_replicate]; simp [hi]⟩⟩
theorem own_lrem {t x : Int64} (e : t = x % 10) (h : 0 ≤ x.toInt) : t.toInt = x.toInt % 10 := by
  subst e; have := (c_lrem x 10 10 rfl).1 h; rwa [lrem_mod] at this
theorem own_ldiv {t x : Int64} (e : t = x / 10) (h : 0 ≤ x.toInt) : t.toInt = x.toInt / 10 := by
  subst e; exact (c_ldiv x 10 10 rfl (by decide)).1 h
theorem own_lmul10 {t x : Int64} (e : t = x * 10) (h : 0 ≤ x.toInt) (h2 : x.toInt * 10 < 9223372036854775808) : t.toInt = x.toInt * 10 := by
  have a := c_lmul x 10; have b := rng64 (x * 10); have l : (10 : Int64).toInt = 10 := rfl
  subst e; rw [l] at a; omega
theorem own_byte {t u v : Int32} {w : Int64} (e1 : t = w.toInt32) (e2 : u = t.toInt8.toInt32) (h1 : 0 ≤ w.toInt) (h2 : w.toInt < 128) (e3 : v = u.toInt8.toInt32) : v.toInt = w.toInt := by
  have a := c_l2i w; have b := rng32 w.toInt32; have c := c_i2b t; have d := c_i2b u
  rw [← e1] at a b; rw [← e2] at c; rw [← e3] at d; omega
theorem own_ushr {t x : Int64} {y : Int32} (e : t = (x.toUInt64 >>> (y &&& 0x3f).toInt64.toUInt64).toInt64) (h : 0 ≤ x.toInt) : 0 ≤ t.toInt := by
  subst e
  have hx : x.toBitVec.toNat < 2 ^ 63 := by
    have h1 : x.toInt = x.toBitVec.toInt := rfl
    rw [h1, BitVec.toInt_eq_toNat_cond] at h
    split at h <;> omega
  have h2 : ((x.toUInt64 >>> (y &&& 0x3f).toInt64.toUInt64).toInt64).toInt = (x.toBitVec >>> ((y &&& 0x3f).toInt64.toUInt64 % 64).toBitVec).toInt := rfl
  rw [h2, BitVec.toInt_eq_toNat_cond]
  have h3 : (x.toBitVec >>> ((y &&& 0x3f).toInt64.toUInt64 % 64).toBitVec).toNat ≤ x.toBitVec.toNat := by
    rw [BitVec.ushiftRight_eq', BitVec.toNat_ushiftRight, Nat.shiftRight_eq_div_pow]; exact Nat.div_le_self _ _
  split <;> omega

theorem d1_0 : decode prog_111_method_23_code 0 = .ok (.iload_n 3, 1) := by decide +kernel
theorem d1_1 : decode prog_111_method_23_code 1 = .ok (.iconst 1, 1) := by decide +kernel
theorem d1_2 : decode prog_111_method_23_code 2 = .ok (.iadd, 1) := by decide +kernel
theorem d1_3 : decode prog_111_method_23_code 3 = .ok (.istore 4, 2) := by decide +kernel
theorem d1_5 : decode prog_111_method_23_code 5 = .ok (.lload_n 0, 1) := by decide +kernel
theorem d1_6 : decode prog_111_method_23_code 6 = .ok (.ldc2_w 190, 3) := by decide +kernel
theorem d1_9 : decode prog_111_method_23_code 9 = .ok (.ldiv, 1) := by decide +kernel
theorem d1_10 : decode prog_111_method_23_code 10 = .ok (.lstore 5, 2) := by decide +kernel
theorem d1_12 : decode prog_111_method_23_code 12 = .ok (.lload 5, 2) := by decide +kernel
theorem d1_14 : decode prog_111_method_23_code 14 = .ok (.lconst 0, 1) := by decide +kernel
theorem d1_15 : decode prog_111_method_23_code 15 = .ok (.lcmp, 1) := by decide +kernel
theorem d1_16 : decode prog_111_method_23_code 16 = .ok (.ifCond .eq 17, 3) := by decide +kernel
theorem d1_19 : decode prog_111_method_23_code 19 = .ok (.iinc 4 1, 3) := by decide +kernel
theorem d1_22 : decode prog_111_method_23_code 22 = .ok (.lload 5, 2) := by decide +kernel
theorem d1_24 : decode prog_111_method_23_code 24 = .ok (.ldc2_w 190, 3) := by decide +kernel
theorem d1_27 : decode prog_111_method_23_code 27 = .ok (.ldiv, 1) := by decide +kernel
theorem d1_28 : decode prog_111_method_23_code 28 = .ok (.lstore 5, 2) := by decide +kernel
theorem d1_30 : decode prog_111_method_23_code 30 = .ok (.goto (-18), 3) := by decide +kernel
theorem d1_33 : decode prog_111_method_23_code 33 = .ok (.lload_n 0, 1) := by decide +kernel
theorem d1_34 : decode prog_111_method_23_code 34 = .ok (.lstore 5, 2) := by decide +kernel
theorem d1_36 : decode prog_111_method_23_code 36 = .ok (.iload 4, 2) := by decide +kernel
theorem d1_38 : decode prog_111_method_23_code 38 = .ok (.iconst 1, 1) := by decide +kernel
theorem d1_39 : decode prog_111_method_23_code 39 = .ok (.isub, 1) := by decide +kernel
theorem d1_40 : decode prog_111_method_23_code 40 = .ok (.istore 7, 2) := by decide +kernel
theorem d1_42 : decode prog_111_method_23_code 42 = .ok (.iload 7, 2) := by decide +kernel
theorem d1_44 : decode prog_111_method_23_code 44 = .ok (.iload_n 3, 1) := by decide +kernel
theorem d1_45 : decode prog_111_method_23_code 45 = .ok (.if_icmp .lt 33, 3) := by decide +kernel
theorem d1_48 : decode prog_111_method_23_code 48 = .ok (.aload_n 2, 1) := by decide +kernel
theorem d1_49 : decode prog_111_method_23_code 49 = .ok (.iload 7, 2) := by decide +kernel
theorem d1_51 : decode prog_111_method_23_code 51 = .ok (.ldc2_w 192, 3) := by decide +kernel
theorem d1_54 : decode prog_111_method_23_code 54 = .ok (.lload 5, 2) := by decide +kernel
theorem d1_56 : decode prog_111_method_23_code 56 = .ok (.ldc2_w 190, 3) := by decide +kernel
theorem d1_59 : decode prog_111_method_23_code 59 = .ok (.lrem, 1) := by decide +kernel
theorem d1_60 : decode prog_111_method_23_code 60 = .ok (.ladd, 1) := by decide +kernel
theorem d1_61 : decode prog_111_method_23_code 61 = .ok (.l2i, 1) := by decide +kernel
theorem d1_62 : decode prog_111_method_23_code 62 = .ok (.i2b, 1) := by decide +kernel
theorem d1_63 : decode prog_111_method_23_code 63 = .ok (.bastore, 1) := by decide +kernel
theorem d1_64 : decode prog_111_method_23_code 64 = .ok (.iinc 7 (-1), 3) := by decide +kernel
theorem d1_67 : decode prog_111_method_23_code 67 = .ok (.lload 5, 2) := by decide +kernel
theorem d1_69 : decode prog_111_method_23_code 69 = .ok (.ldc2_w 190, 3) := by decide +kernel
theorem d1_72 : decode prog_111_method_23_code 72 = .ok (.ldiv, 1) := by decide +kernel
theorem d1_73 : decode prog_111_method_23_code 73 = .ok (.lstore 5, 2) := by decide +kernel
theorem d1_75 : decode prog_111_method_23_code 75 = .ok (.goto (-33), 3) := by decide +kernel
theorem d1_78 : decode prog_111_method_23_code 78 = .ok (.iload 4, 2) := by decide +kernel
theorem d1_80 : decode prog_111_method_23_code 80 = .ok (.ireturn, 1) := by decide +kernel
theorem pn_1 : plainFor (⟨"com/example/cairnlog/cairnlog/server/Link", "putDecimal", "(J[BI)I"⟩ : MethodName) = true := by first | exact plainFor_of_name (by first | (simp [plainName, overriddenIn]; done) | decide +kernel) | decide +kernel
set_option maxRecDepth 65536 in
set_option maxHeartbeats 40000000 in
theorem rm_1 (l : Launch) (Z : State) (a0 : Array Value) (hw : ∀ d ∈ tables_1, d.before a0 Z = true) (pn : Int64) (b : Addr) (at_ : Int32) (m A : Nat) (vs : List Value) (h : Heap) (n0 : Nat) (Z0 : n0 ≤ h.size) (A_b : AI Z h b .byte vs) (P_b : own_P m (A + own_dg m) (A + own_dg m) vs) (zb : n0 ≤ b) (hn : pn.toInt = (m : Int)) (hm : m < 9223372036854775808) (ha : at_.toInt = (A : Int)) (hA : A ≤ 7) :
    Does l Z (⟨"com/example/cairnlog/cairnlog/server/Link", "putDecimal", "(J[BI)I"⟩ : MethodName) prog_111_method_23_code 8 (some .int) ({ frames := 0, cells := 0, slots := 0, locals := 0 } : Room) #[(.long pn), (.ref b), (.int at_)] h n0 (fun v' h' => n0 ≤ h'.size ∧ ∃ (x : Int32) (vs : List Value), v' = some (.int x) ∧ x.toInt = ((A + own_dg m : Nat) : Int) ∧ AI Z h' b .byte vs ∧ own_P m (A + own_dg m) A vs) := by
  refine Does.of_body pn_1 [.val (.long pn), .second, .val (.ref b), .val (.int at_), .unset, .unset, .unset, .unset] (fun m => by first | (simp [entryFrame, mkF, argsToLocals, Value.category]; done) | rfl) ?_
  intro W hWl cx
  subst hWl
  have cx : Cx W Z "com/example/cairnlog/cairnlog/server/Link" "putDecimal" prog_111_method_23_code 8 (some .int) := cx
  have l32_1 : (1 : Int32).toInt = 1 := rfl
  have l64_10 : (10 : Int64).toInt = 10 := rfl
  have l64_0 : (0 : Int64).toInt = 0 := rfl
  have l64_48 : (48 : Int64).toInt = 48 := rfl
  have l32_m1 : (-1 : Int32).toInt = -1 := rfl
  refine Ok.iloadN cx d1_0 rfl 1 rfl ?_
  refine Ok.iconst cx d1_1 2 rfl (1 : Int32) rfl ?_
  refine Ok.iadd cx d1_2 3 rfl fun t2 e2 => ?_
  have s2 := own_add e2 (by omega) (by omega)
  refine Ok.istore cx d1_3 rfl One.u [.val (.long pn), .second, .val (.ref b), .val (.int at_), .val (.int t2), .unset, .unset, .unset] rfl 5 rfl ?_
  refine Ok.lloadN cx d1_5 rfl 6 rfl ?_
  refine Ok.ldc2 cx (own_w hw 6 rfl) d1_6 9 rfl ?_
  refine Ok.ldiv cx d1_9 (by decide) 10 rfl fun t9 e9 => ?_
  have s9 := own_ldiv e9 (by omega)
  refine Ok.lstore cx d1_10 [.val (.long pn), .second, .val (.ref b), .val (.int at_), .val (.int t2), .val (.long t9), .second, .unset] rfl 12 rfl ?_
  have hD1 := own_dg1 m
  have hD19 : own_dg m ≤ 19 := own_dg_le (i := 18) (by omega)
  have J42 : ∀ (k : Nat) (dg en : Int32) (rs : Int64) (hh : Heap) (vs : List Value), k ≤ own_dg m → dg.toInt = ((A + k : Nat) : Int) - 1 → rs.toInt = ((m / 10 ^ (own_dg m - k) : Nat) : Int) → en.toInt = ((A + own_dg m : Nat) : Int) → n0 ≤ hh.size → AI Z hh b .byte vs → own_P m (A + own_dg m) (A + k) vs → Ok W ({ frames := 0, cells := 0, slots := 0, locals := 0 } : Room) n0 (fun v' h' => n0 ≤ h'.size ∧ ∃ (x : Int32) (vs : List Value), v' = some (.int x) ∧ x.toInt = ((A + own_dg m : Nat) : Int) ∧ AI Z h' b .byte vs ∧ own_P m (A + own_dg m) A vs) hh 0 0 42 [.val (.long pn), .second, .val (.ref b), .val (.int at_), .val (.int en), .val (.long rs), .second, .val (.int dg)] [] := by
    intro k
    induction k with
    | zero =>
      intro dg en rs hh vs hk hdg hrs hen Z0 A_b P_b
      refine Ok.iload cx d1_42 rfl 44 rfl ?_
      refine Ok.iloadN cx d1_44 rfl 45 rfl ?_
      refine Ok.icmp_lt cx d1_45 78 48 (by decide) rfl (fun c45 => ?_) (fun c45 => by exfalso; omega)
      refine Ok.iload cx d1_78 rfl 80 rfl ?_
      exact Ok.ireturn cx d1_80 (by decide) (by decide) ⟨Z0, _, _, rfl, hen, A_b, P_b⟩
    | succ k ih =>
      intro dg en rs hh vs hk hdg hrs hen Z0 A_b P_b
      have hrs0 : 0 ≤ rs.toInt := by rw [hrs]; exact Int.natCast_nonneg _
      refine Ok.iload cx d1_42 rfl 44 rfl ?_
      refine Ok.iloadN cx d1_44 rfl 45 rfl ?_
      refine Ok.icmp_lt cx d1_45 78 48 (by decide) rfl (fun c45 => by exfalso; omega) (fun c45 => ?_)
      refine Ok.aloadN cx d1_48 rfl 49 rfl ?_
      refine Ok.iload cx d1_49 rfl 51 rfl ?_
      refine Ok.ldc2 cx (own_w hw 7 rfl) d1_51 54 rfl ?_
      refine Ok.lload cx d1_54 rfl 56 rfl ?_
      refine Ok.ldc2 cx (own_w hw 6 rfl) d1_56 59 rfl ?_
      refine Ok.lrem cx d1_59 (by decide) 60 rfl fun t59 e59 => ?_
      have s59 := own_lrem e59 (by omega)
      refine Ok.ladd cx d1_60 61 rfl fun t60 e60 => ?_
      have s60 := own_ladd e60 (by omega) (by omega)
      refine Ok.l2i cx d1_61 62 rfl fun t61 e61 => ?_
      refine Ok.i2b cx d1_62 63 rfl fun t62 e62 => ?_
      refine Ok.bastore cx d1_63 A_b (A + k) (by omega) (by rw [P_b.1]; omega) (by first | assumption | omega) 64 rfl fun h63_ W63 G63 => ?_
      have Z0 := Nat.le_trans Z0 (Nat.le_of_eq W63.size.symm)
      have A_b := G63
      refine Ok.iinc cx d1_64 rfl (-1 : Int32) rfl (fun y => [.val (.long pn), .second, .val (.ref b), .val (.int at_), .val (.int en), .val (.long rs), .second, .val (.int y)]) (fun _ => rfl) 67 rfl fun t64 e64 => ?_
      have s64 := own_add e64 (by omega) (by omega)
      refine Ok.lload cx d1_67 rfl 69 rfl ?_
      refine Ok.ldc2 cx (own_w hw 6 rfl) d1_69 72 rfl ?_
      refine Ok.ldiv cx d1_72 (by decide) 73 rfl fun t72 e72 => ?_
      have s72 := own_ldiv e72 (by omega)
      refine Ok.lstore cx d1_73 [.val (.long pn), .second, .val (.ref b), .val (.int at_), .val (.int en), .val (.long t72), .second, .val (.int t64)] rfl 75 rfl ?_
      refine Ok.goto cx d1_75 42 (by decide) ?_
      exact ih t64 en t72 h63_ _ (by omega) (by omega) (by rw [s72, hrs, show own_dg m - k = own_dg m - (k + 1) + 1 by omega, own_shift]; omega) hen Z0 A_b (own_Pstep P_b (by omega) (by omega) (by rw [own_byte e61 e62 (by omega) (by omega) rfl, s60, s59, hrs, show A + own_dg m - (A + k + 1) = own_dg m - (k + 1) by omega]; omega))
  have J33 : ∀ (en : Int32) (rs : Int64), en.toInt = ((A + own_dg m : Nat) : Int) → Ok W ({ frames := 0, cells := 0, slots := 0, locals := 0 } : Room) n0 (fun v' h' => n0 ≤ h'.size ∧ ∃ (x : Int32) (vs : List Value), v' = some (.int x) ∧ x.toInt = ((A + own_dg m : Nat) : Int) ∧ AI Z h' b .byte vs ∧ own_P m (A + own_dg m) A vs) h 0 0 33 [.val (.long pn), .second, .val (.ref b), .val (.int at_), .val (.int en), .val (.long rs), .second, .unset] [] := by
    intro en rs hen
    refine Ok.lloadN cx d1_33 rfl 34 rfl ?_
    refine Ok.lstore cx d1_34 [.val (.long pn), .second, .val (.ref b), .val (.int at_), .val (.int en), .val (.long pn), .second, .unset] rfl 36 rfl ?_
    refine Ok.iload cx d1_36 rfl 38 rfl ?_
    refine Ok.iconst cx d1_38 39 rfl (1 : Int32) rfl ?_
    refine Ok.isub cx d1_39 40 rfl fun t39 e39 => ?_
    have s39 := own_sub e39 (by omega) (by omega)
    refine Ok.istore cx d1_40 rfl One.u [.val (.long pn), .second, .val (.ref b), .val (.int at_), .val (.int en), .val (.long pn), .second, .val (.int t39)] rfl 42 rfl ?_
    exact J42 (own_dg m) t39 en pn h _ (Nat.le_refl _) (by omega) (by rw [Nat.sub_self, Nat.pow_zero, Nat.div_one]; exact hn) hen Z0 A_b P_b
  have J12 : ∀ (M : Nat) (en : Int32) (rs : Int64), rs.toInt = (M : Int) → 0 ≤ en.toInt → en.toInt + (own_dz M : Int) = ((A + own_dg m : Nat) : Int) → Ok W ({ frames := 0, cells := 0, slots := 0, locals := 0 } : Room) n0 (fun v' h' => n0 ≤ h'.size ∧ ∃ (x : Int32) (vs : List Value), v' = some (.int x) ∧ x.toInt = ((A + own_dg m : Nat) : Int) ∧ AI Z h' b .byte vs ∧ own_P m (A + own_dg m) A vs) h 0 0 12 [.val (.long pn), .second, .val (.ref b), .val (.int at_), .val (.int en), .val (.long rs), .second, .unset] [] := by
    intro M
    induction M using Nat.strongRecOn with
    | ind M ih =>
      intro en rs hrs hen0 hen
      refine Ok.lload cx d1_12 rfl 14 rfl ?_
      refine Ok.lconst cx d1_14 15 rfl (0 : Int64) rfl ?_
      refine Ok.lcmp_eq cx d1_15 d1_16 33 19 (by decide) rfl (fun c16 => ?_) (fun c16 => ?_)
      · skip
        exact J33 en rs (by have hM : M = 0 := (by omega); rw [hM, own_dz0] at hen; omega)
      · skip
        refine Ok.iinc cx d1_19 rfl (1 : Int32) rfl (fun y => [.val (.long pn), .second, .val (.ref b), .val (.int at_), .val (.int y), .val (.long rs), .second, .unset]) (fun _ => rfl) 22 rfl fun t19 e19 => ?_
        have hM : M ≠ 0 := by omega
        have hz := own_dzs hM
        have s19 := own_add e19 (by omega) (by omega)
        refine Ok.lload cx d1_22 rfl 24 rfl ?_
        refine Ok.ldc2 cx (own_w hw 6 rfl) d1_24 27 rfl ?_
        refine Ok.ldiv cx d1_27 (by decide) 28 rfl fun t27 e27 => ?_
        have s27 := own_ldiv e27 (by omega)
        refine Ok.lstore cx d1_28 [.val (.long pn), .second, .val (.ref b), .val (.int at_), .val (.int t19), .val (.long t27), .second, .unset] rfl 30 rfl ?_
        refine Ok.goto cx d1_30 12 (by decide) ?_
        exact ih (M / 10) (by omega) t19 t27 (by omega) (by omega) (by omega)
  exact J12 (m / 10) t2 t9 (by omega) (by omega) (by have : own_dg m = own_dz (m / 10) + 1 := rfl; omega)
theorem d2_0 : decode method_4_code 0 = .ok (.iconst 1, 1) := by decide +kernel
theorem d2_1 : decode method_4_code 1 = .ok (.istore_n 2, 1) := by decide +kernel
theorem d2_2 : decode method_4_code 2 = .ok (.lload_n 0, 1) := by decide +kernel
theorem d2_3 : decode method_4_code 3 = .ok (.ldc2_w 29, 3) := by decide +kernel
theorem d2_6 : decode method_4_code 6 = .ok (.lcmp, 1) := by decide +kernel
theorem d2_7 : decode method_4_code 7 = .ok (.ifCond .lt 6, 3) := by decide +kernel
theorem d2_10 : decode method_4_code 10 = .ok (.iinc 2 1, 3) := by decide +kernel
theorem d2_13 : decode method_4_code 13 = .ok (.lload_n 0, 1) := by decide +kernel
theorem d2_14 : decode method_4_code 14 = .ok (.ldc2_w 31, 3) := by decide +kernel
theorem d2_17 : decode method_4_code 17 = .ok (.lcmp, 1) := by decide +kernel
theorem d2_18 : decode method_4_code 18 = .ok (.ifCond .lt 6, 3) := by decide +kernel
theorem d2_21 : decode method_4_code 21 = .ok (.iinc 2 1, 3) := by decide +kernel
theorem d2_24 : decode method_4_code 24 = .ok (.lload_n 0, 1) := by decide +kernel
theorem d2_25 : decode method_4_code 25 = .ok (.ldc2_w 33, 3) := by decide +kernel
theorem d2_28 : decode method_4_code 28 = .ok (.lcmp, 1) := by decide +kernel
theorem d2_29 : decode method_4_code 29 = .ok (.ifCond .lt 6, 3) := by decide +kernel
theorem d2_32 : decode method_4_code 32 = .ok (.iinc 2 1, 3) := by decide +kernel
theorem d2_35 : decode method_4_code 35 = .ok (.lload_n 0, 1) := by decide +kernel
theorem d2_36 : decode method_4_code 36 = .ok (.ldc2_w 35, 3) := by decide +kernel
theorem d2_39 : decode method_4_code 39 = .ok (.lcmp, 1) := by decide +kernel
theorem d2_40 : decode method_4_code 40 = .ok (.ifCond .lt 6, 3) := by decide +kernel
theorem d2_43 : decode method_4_code 43 = .ok (.iinc 2 1, 3) := by decide +kernel
theorem d2_46 : decode method_4_code 46 = .ok (.lload_n 0, 1) := by decide +kernel
theorem d2_47 : decode method_4_code 47 = .ok (.ldc2_w 37, 3) := by decide +kernel
theorem d2_50 : decode method_4_code 50 = .ok (.lcmp, 1) := by decide +kernel
theorem d2_51 : decode method_4_code 51 = .ok (.ifCond .lt 6, 3) := by decide +kernel
theorem d2_54 : decode method_4_code 54 = .ok (.iinc 2 1, 3) := by decide +kernel
theorem d2_57 : decode method_4_code 57 = .ok (.lload_n 0, 1) := by decide +kernel
theorem d2_58 : decode method_4_code 58 = .ok (.ldc2_w 39, 3) := by decide +kernel
theorem d2_61 : decode method_4_code 61 = .ok (.lcmp, 1) := by decide +kernel
theorem d2_62 : decode method_4_code 62 = .ok (.ifCond .lt 6, 3) := by decide +kernel
theorem d2_65 : decode method_4_code 65 = .ok (.iinc 2 1, 3) := by decide +kernel
theorem d2_68 : decode method_4_code 68 = .ok (.lload_n 0, 1) := by decide +kernel
theorem d2_69 : decode method_4_code 69 = .ok (.ldc2_w 41, 3) := by decide +kernel
theorem d2_72 : decode method_4_code 72 = .ok (.lcmp, 1) := by decide +kernel
theorem d2_73 : decode method_4_code 73 = .ok (.ifCond .lt 6, 3) := by decide +kernel
theorem d2_76 : decode method_4_code 76 = .ok (.iinc 2 1, 3) := by decide +kernel
theorem d2_79 : decode method_4_code 79 = .ok (.lload_n 0, 1) := by decide +kernel
theorem d2_80 : decode method_4_code 80 = .ok (.ldc2_w 43, 3) := by decide +kernel
theorem d2_83 : decode method_4_code 83 = .ok (.lcmp, 1) := by decide +kernel
theorem d2_84 : decode method_4_code 84 = .ok (.ifCond .lt 6, 3) := by decide +kernel
theorem d2_87 : decode method_4_code 87 = .ok (.iinc 2 1, 3) := by decide +kernel
theorem d2_90 : decode method_4_code 90 = .ok (.lload_n 0, 1) := by decide +kernel
theorem d2_91 : decode method_4_code 91 = .ok (.ldc2_w 45, 3) := by decide +kernel
theorem d2_94 : decode method_4_code 94 = .ok (.lcmp, 1) := by decide +kernel
theorem d2_95 : decode method_4_code 95 = .ok (.ifCond .lt 6, 3) := by decide +kernel
theorem d2_98 : decode method_4_code 98 = .ok (.iinc 2 1, 3) := by decide +kernel
theorem d2_101 : decode method_4_code 101 = .ok (.lload_n 0, 1) := by decide +kernel
theorem d2_102 : decode method_4_code 102 = .ok (.ldc2_w 47, 3) := by decide +kernel
theorem d2_105 : decode method_4_code 105 = .ok (.lcmp, 1) := by decide +kernel
theorem d2_106 : decode method_4_code 106 = .ok (.ifCond .lt 6, 3) := by decide +kernel
theorem d2_109 : decode method_4_code 109 = .ok (.iinc 2 1, 3) := by decide +kernel
theorem d2_112 : decode method_4_code 112 = .ok (.lload_n 0, 1) := by decide +kernel
theorem d2_113 : decode method_4_code 113 = .ok (.ldc2_w 49, 3) := by decide +kernel
theorem d2_116 : decode method_4_code 116 = .ok (.lcmp, 1) := by decide +kernel
theorem d2_117 : decode method_4_code 117 = .ok (.ifCond .lt 6, 3) := by decide +kernel
theorem d2_120 : decode method_4_code 120 = .ok (.iinc 2 1, 3) := by decide +kernel
theorem d2_123 : decode method_4_code 123 = .ok (.lload_n 0, 1) := by decide +kernel
theorem d2_124 : decode method_4_code 124 = .ok (.ldc2_w 51, 3) := by decide +kernel
theorem d2_127 : decode method_4_code 127 = .ok (.lcmp, 1) := by decide +kernel
theorem d2_128 : decode method_4_code 128 = .ok (.ifCond .lt 6, 3) := by decide +kernel
theorem d2_131 : decode method_4_code 131 = .ok (.iinc 2 1, 3) := by decide +kernel
theorem d2_134 : decode method_4_code 134 = .ok (.lload_n 0, 1) := by decide +kernel
theorem d2_135 : decode method_4_code 135 = .ok (.ldc2_w 53, 3) := by decide +kernel
theorem d2_138 : decode method_4_code 138 = .ok (.lcmp, 1) := by decide +kernel
theorem d2_139 : decode method_4_code 139 = .ok (.ifCond .lt 6, 3) := by decide +kernel
theorem d2_142 : decode method_4_code 142 = .ok (.iinc 2 1, 3) := by decide +kernel
theorem d2_145 : decode method_4_code 145 = .ok (.lload_n 0, 1) := by decide +kernel
theorem d2_146 : decode method_4_code 146 = .ok (.ldc2_w 55, 3) := by decide +kernel
theorem d2_149 : decode method_4_code 149 = .ok (.lcmp, 1) := by decide +kernel
theorem d2_150 : decode method_4_code 150 = .ok (.ifCond .lt 6, 3) := by decide +kernel
theorem d2_153 : decode method_4_code 153 = .ok (.iinc 2 1, 3) := by decide +kernel
theorem d2_156 : decode method_4_code 156 = .ok (.lload_n 0, 1) := by decide +kernel
theorem d2_157 : decode method_4_code 157 = .ok (.ldc2_w 57, 3) := by decide +kernel
theorem d2_160 : decode method_4_code 160 = .ok (.lcmp, 1) := by decide +kernel
theorem d2_161 : decode method_4_code 161 = .ok (.ifCond .lt 6, 3) := by decide +kernel
theorem d2_164 : decode method_4_code 164 = .ok (.iinc 2 1, 3) := by decide +kernel
theorem d2_167 : decode method_4_code 167 = .ok (.lload_n 0, 1) := by decide +kernel
theorem d2_168 : decode method_4_code 168 = .ok (.ldc2_w 59, 3) := by decide +kernel
theorem d2_171 : decode method_4_code 171 = .ok (.lcmp, 1) := by decide +kernel
theorem d2_172 : decode method_4_code 172 = .ok (.ifCond .lt 6, 3) := by decide +kernel
theorem d2_175 : decode method_4_code 175 = .ok (.iinc 2 1, 3) := by decide +kernel
theorem d2_178 : decode method_4_code 178 = .ok (.lload_n 0, 1) := by decide +kernel
theorem d2_179 : decode method_4_code 179 = .ok (.ldc2_w 61, 3) := by decide +kernel
theorem d2_182 : decode method_4_code 182 = .ok (.lcmp, 1) := by decide +kernel
theorem d2_183 : decode method_4_code 183 = .ok (.ifCond .lt 6, 3) := by decide +kernel
theorem d2_186 : decode method_4_code 186 = .ok (.iinc 2 1, 3) := by decide +kernel
theorem d2_189 : decode method_4_code 189 = .ok (.lload_n 0, 1) := by decide +kernel
theorem d2_190 : decode method_4_code 190 = .ok (.ldc2_w 63, 3) := by decide +kernel
theorem d2_193 : decode method_4_code 193 = .ok (.lcmp, 1) := by decide +kernel
theorem d2_194 : decode method_4_code 194 = .ok (.ifCond .lt 6, 3) := by decide +kernel
theorem d2_197 : decode method_4_code 197 = .ok (.iinc 2 1, 3) := by decide +kernel
theorem d2_200 : decode method_4_code 200 = .ok (.iload_n 2, 1) := by decide +kernel
theorem d2_201 : decode method_4_code 201 = .ok (.ireturn, 1) := by decide +kernel
theorem pn_2 : plainFor (⟨"com/example/cairnlog/cairnlog/server/LinkPutDecimalPinLaw", "digits", "(J)I"⟩ : MethodName) = true := by first | exact plainFor_of_name (by first | (simp [plainName, overriddenIn]; done) | decide +kernel) | decide +kernel
set_option maxRecDepth 65536 in
set_option maxHeartbeats 40000000 in
theorem rm_2 (l : Launch) (Z : State) (a0 : Array Value) (hw : ∀ d ∈ tables_1, d.before a0 Z = true) (pn : Int64) (m : Nat) (h : Heap) (n0 : Nat) (Z0 : n0 ≤ h.size) (hn : pn.toInt = (m : Int)) (hm : m < 9223372036854775808) :
    Does l Z (⟨"com/example/cairnlog/cairnlog/server/LinkPutDecimalPinLaw", "digits", "(J)I"⟩ : MethodName) method_4_code 3 (some .int) ({ frames := 0, cells := 0, slots := 0, locals := 0 } : Room) #[(.long pn)] h n0 (fun v' h' => h = h' ∧ ∃ x : Int32, v' = some (.int x) ∧ x.toInt = (own_dg m : Int)) := by
  refine Does.of_body pn_2 [.val (.long pn), .second, .unset] (fun m => by first | (simp [entryFrame, mkF, argsToLocals, Value.category]; done) | rfl) ?_
  intro W hWl cx
  subst hWl
  have cx : Cx W Z "com/example/cairnlog/cairnlog/server/LinkPutDecimalPinLaw" "digits" method_4_code 3 (some .int) := cx
  have l32_1 : (1 : Int32).toInt = 1 := rfl
  have l64_10 : (10 : Int64).toInt = 10 := rfl
  have l64_100 : (100 : Int64).toInt = 100 := rfl
  have l64_1000 : (1000 : Int64).toInt = 1000 := rfl
  have l64_10000 : (10000 : Int64).toInt = 10000 := rfl
  have l64_100000 : (100000 : Int64).toInt = 100000 := rfl
  have l64_1000000 : (1000000 : Int64).toInt = 1000000 := rfl
  have l64_10000000 : (10000000 : Int64).toInt = 10000000 := rfl
  have l64_100000000 : (100000000 : Int64).toInt = 100000000 := rfl
  have l64_1000000000 : (1000000000 : Int64).toInt = 1000000000 := rfl
  have l64_10000000000 : (10000000000 : Int64).toInt = 10000000000 := rfl
  have l64_100000000000 : (100000000000 : Int64).toInt = 100000000000 := rfl
  have l64_1000000000000 : (1000000000000 : Int64).toInt = 1000000000000 := rfl
  have l64_10000000000000 : (10000000000000 : Int64).toInt = 10000000000000 := rfl
  have l64_100000000000000 : (100000000000000 : Int64).toInt = 100000000000000 := rfl
  have l64_1000000000000000 : (1000000000000000 : Int64).toInt = 1000000000000000 := rfl
  have l64_10000000000000000 : (10000000000000000 : Int64).toInt = 10000000000000000 := rfl
  have l64_100000000000000000 : (100000000000000000 : Int64).toInt = 100000000000000000 := rfl
  have l64_1000000000000000000 : (1000000000000000000 : Int64).toInt = 1000000000000000000 := rfl
  have hg1 := own_dg1 m
  have J200 : ∀ d : Int32, (1000000000000000000 ≤ m ∧ d.toInt = 19 ∨ m < 1000000000000000000 ∧ d.toInt = (own_dg m : Int)) → Ok W ({ frames := 0, cells := 0, slots := 0, locals := 0 } : Room) n0 (fun v' h' => h = h' ∧ ∃ x : Int32, v' = some (.int x) ∧ x.toInt = (own_dg m : Int)) h 0 0 200 [.val (.long pn), .second, .val (.int d)] [] := by
    intro d hd
    have hb := own_dgb (a := 1000000000000000000) (b := 10000000000000000000) m 18 rfl rfl
    refine Ok.iloadN cx d2_200 rfl 201 rfl ?_
    exact Ok.ireturn cx d2_201 (by decide) (by decide) ⟨rfl, _, rfl, by omega⟩
  have J189 : ∀ d : Int32, (100000000000000000 ≤ m ∧ d.toInt = 18 ∨ m < 100000000000000000 ∧ d.toInt = (own_dg m : Int)) → Ok W ({ frames := 0, cells := 0, slots := 0, locals := 0 } : Room) n0 (fun v' h' => h = h' ∧ ∃ x : Int32, v' = some (.int x) ∧ x.toInt = (own_dg m : Int)) h 0 0 189 [.val (.long pn), .second, .val (.int d)] [] := by
    intro d hd
    have hb := own_dgb (a := 100000000000000000) (b := 1000000000000000000) m 17 rfl rfl
    refine Ok.lloadN cx d2_189 rfl 190 rfl ?_
    refine Ok.ldc2 cx (own_w hw 29 rfl) d2_190 193 rfl ?_
    refine Ok.lcmp_lt cx d2_193 d2_194 200 197 (by decide) rfl (fun c194 => ?_) (fun c194 => ?_)
    · skip
      exact J200 d (by omega)
    · skip
      refine Ok.iinc cx d2_197 rfl (1 : Int32) rfl (fun y => [.val (.long pn), .second, .val (.int y)]) (fun _ => rfl) 200 rfl fun t197 e197 => ?_
      have s197 := own_add e197 (by omega) (by omega)
      exact J200 t197 (by omega)
  have J178 : ∀ d : Int32, (10000000000000000 ≤ m ∧ d.toInt = 17 ∨ m < 10000000000000000 ∧ d.toInt = (own_dg m : Int)) → Ok W ({ frames := 0, cells := 0, slots := 0, locals := 0 } : Room) n0 (fun v' h' => h = h' ∧ ∃ x : Int32, v' = some (.int x) ∧ x.toInt = (own_dg m : Int)) h 0 0 178 [.val (.long pn), .second, .val (.int d)] [] := by
    intro d hd
    have hb := own_dgb (a := 10000000000000000) (b := 100000000000000000) m 16 rfl rfl
    refine Ok.lloadN cx d2_178 rfl 179 rfl ?_
    refine Ok.ldc2 cx (own_w hw 28 rfl) d2_179 182 rfl ?_
    refine Ok.lcmp_lt cx d2_182 d2_183 189 186 (by decide) rfl (fun c183 => ?_) (fun c183 => ?_)
    · skip
      exact J189 d (by omega)
    · skip
      refine Ok.iinc cx d2_186 rfl (1 : Int32) rfl (fun y => [.val (.long pn), .second, .val (.int y)]) (fun _ => rfl) 189 rfl fun t186 e186 => ?_
      have s186 := own_add e186 (by omega) (by omega)
      exact J189 t186 (by omega)
  have J167 : ∀ d : Int32, (1000000000000000 ≤ m ∧ d.toInt = 16 ∨ m < 1000000000000000 ∧ d.toInt = (own_dg m : Int)) → Ok W ({ frames := 0, cells := 0, slots := 0, locals := 0 } : Room) n0 (fun v' h' => h = h' ∧ ∃ x : Int32, v' = some (.int x) ∧ x.toInt = (own_dg m : Int)) h 0 0 167 [.val (.long pn), .second, .val (.int d)] [] := by
    intro d hd
    have hb := own_dgb (a := 1000000000000000) (b := 10000000000000000) m 15 rfl rfl
    refine Ok.lloadN cx d2_167 rfl 168 rfl ?_
    refine Ok.ldc2 cx (own_w hw 27 rfl) d2_168 171 rfl ?_
    refine Ok.lcmp_lt cx d2_171 d2_172 178 175 (by decide) rfl (fun c172 => ?_) (fun c172 => ?_)
    · skip
      exact J178 d (by omega)
    · skip
      refine Ok.iinc cx d2_175 rfl (1 : Int32) rfl (fun y => [.val (.long pn), .second, .val (.int y)]) (fun _ => rfl) 178 rfl fun t175 e175 => ?_
      have s175 := own_add e175 (by omega) (by omega)
      exact J178 t175 (by omega)
  have J156 : ∀ d : Int32, (100000000000000 ≤ m ∧ d.toInt = 15 ∨ m < 100000000000000 ∧ d.toInt = (own_dg m : Int)) → Ok W ({ frames := 0, cells := 0, slots := 0, locals := 0 } : Room) n0 (fun v' h' => h = h' ∧ ∃ x : Int32, v' = some (.int x) ∧ x.toInt = (own_dg m : Int)) h 0 0 156 [.val (.long pn), .second, .val (.int d)] [] := by
    intro d hd
    have hb := own_dgb (a := 100000000000000) (b := 1000000000000000) m 14 rfl rfl
    refine Ok.lloadN cx d2_156 rfl 157 rfl ?_
    refine Ok.ldc2 cx (own_w hw 26 rfl) d2_157 160 rfl ?_
    refine Ok.lcmp_lt cx d2_160 d2_161 167 164 (by decide) rfl (fun c161 => ?_) (fun c161 => ?_)
    · skip
      exact J167 d (by omega)
    · skip
      refine Ok.iinc cx d2_164 rfl (1 : Int32) rfl (fun y => [.val (.long pn), .second, .val (.int y)]) (fun _ => rfl) 167 rfl fun t164 e164 => ?_
      have s164 := own_add e164 (by omega) (by omega)
      exact J167 t164 (by omega)
  have J145 : ∀ d : Int32, (10000000000000 ≤ m ∧ d.toInt = 14 ∨ m < 10000000000000 ∧ d.toInt = (own_dg m : Int)) → Ok W ({ frames := 0, cells := 0, slots := 0, locals := 0 } : Room) n0 (fun v' h' => h = h' ∧ ∃ x : Int32, v' = some (.int x) ∧ x.toInt = (own_dg m : Int)) h 0 0 145 [.val (.long pn), .second, .val (.int d)] [] := by
    intro d hd
    have hb := own_dgb (a := 10000000000000) (b := 100000000000000) m 13 rfl rfl
    refine Ok.lloadN cx d2_145 rfl 146 rfl ?_
    refine Ok.ldc2 cx (own_w hw 25 rfl) d2_146 149 rfl ?_
    refine Ok.lcmp_lt cx d2_149 d2_150 156 153 (by decide) rfl (fun c150 => ?_) (fun c150 => ?_)
    · skip
      exact J156 d (by omega)
    · skip
      refine Ok.iinc cx d2_153 rfl (1 : Int32) rfl (fun y => [.val (.long pn), .second, .val (.int y)]) (fun _ => rfl) 156 rfl fun t153 e153 => ?_
      have s153 := own_add e153 (by omega) (by omega)
      exact J156 t153 (by omega)
  have J134 : ∀ d : Int32, (1000000000000 ≤ m ∧ d.toInt = 13 ∨ m < 1000000000000 ∧ d.toInt = (own_dg m : Int)) → Ok W ({ frames := 0, cells := 0, slots := 0, locals := 0 } : Room) n0 (fun v' h' => h = h' ∧ ∃ x : Int32, v' = some (.int x) ∧ x.toInt = (own_dg m : Int)) h 0 0 134 [.val (.long pn), .second, .val (.int d)] [] := by
    intro d hd
    have hb := own_dgb (a := 1000000000000) (b := 10000000000000) m 12 rfl rfl
    refine Ok.lloadN cx d2_134 rfl 135 rfl ?_
    refine Ok.ldc2 cx (own_w hw 24 rfl) d2_135 138 rfl ?_
    refine Ok.lcmp_lt cx d2_138 d2_139 145 142 (by decide) rfl (fun c139 => ?_) (fun c139 => ?_)
    · skip
      exact J145 d (by omega)
    · skip
      refine Ok.iinc cx d2_142 rfl (1 : Int32) rfl (fun y => [.val (.long pn), .second, .val (.int y)]) (fun _ => rfl) 145 rfl fun t142 e142 => ?_
      have s142 := own_add e142 (by omega) (by omega)
      exact J145 t142 (by omega)
  have J123 : ∀ d : Int32, (100000000000 ≤ m ∧ d.toInt = 12 ∨ m < 100000000000 ∧ d.toInt = (own_dg m : Int)) → Ok W ({ frames := 0, cells := 0, slots := 0, locals := 0 } : Room) n0 (fun v' h' => h = h' ∧ ∃ x : Int32, v' = some (.int x) ∧ x.toInt = (own_dg m : Int)) h 0 0 123 [.val (.long pn), .second, .val (.int d)] [] := by
    intro d hd
    have hb := own_dgb (a := 100000000000) (b := 1000000000000) m 11 rfl rfl
    refine Ok.lloadN cx d2_123 rfl 124 rfl ?_
    refine Ok.ldc2 cx (own_w hw 23 rfl) d2_124 127 rfl ?_
    refine Ok.lcmp_lt cx d2_127 d2_128 134 131 (by decide) rfl (fun c128 => ?_) (fun c128 => ?_)
    · skip
      exact J134 d (by omega)
    · skip
      refine Ok.iinc cx d2_131 rfl (1 : Int32) rfl (fun y => [.val (.long pn), .second, .val (.int y)]) (fun _ => rfl) 134 rfl fun t131 e131 => ?_
      have s131 := own_add e131 (by omega) (by omega)
      exact J134 t131 (by omega)
  have J112 : ∀ d : Int32, (10000000000 ≤ m ∧ d.toInt = 11 ∨ m < 10000000000 ∧ d.toInt = (own_dg m : Int)) → Ok W ({ frames := 0, cells := 0, slots := 0, locals := 0 } : Room) n0 (fun v' h' => h = h' ∧ ∃ x : Int32, v' = some (.int x) ∧ x.toInt = (own_dg m : Int)) h 0 0 112 [.val (.long pn), .second, .val (.int d)] [] := by
    intro d hd
    have hb := own_dgb (a := 10000000000) (b := 100000000000) m 10 rfl rfl
    refine Ok.lloadN cx d2_112 rfl 113 rfl ?_
    refine Ok.ldc2 cx (own_w hw 22 rfl) d2_113 116 rfl ?_
    refine Ok.lcmp_lt cx d2_116 d2_117 123 120 (by decide) rfl (fun c117 => ?_) (fun c117 => ?_)
    · skip
      exact J123 d (by omega)
    · skip
      refine Ok.iinc cx d2_120 rfl (1 : Int32) rfl (fun y => [.val (.long pn), .second, .val (.int y)]) (fun _ => rfl) 123 rfl fun t120 e120 => ?_
      have s120 := own_add e120 (by omega) (by omega)
      exact J123 t120 (by omega)
  have J101 : ∀ d : Int32, (1000000000 ≤ m ∧ d.toInt = 10 ∨ m < 1000000000 ∧ d.toInt = (own_dg m : Int)) → Ok W ({ frames := 0, cells := 0, slots := 0, locals := 0 } : Room) n0 (fun v' h' => h = h' ∧ ∃ x : Int32, v' = some (.int x) ∧ x.toInt = (own_dg m : Int)) h 0 0 101 [.val (.long pn), .second, .val (.int d)] [] := by
    intro d hd
    have hb := own_dgb (a := 1000000000) (b := 10000000000) m 9 rfl rfl
    refine Ok.lloadN cx d2_101 rfl 102 rfl ?_
    refine Ok.ldc2 cx (own_w hw 21 rfl) d2_102 105 rfl ?_
    refine Ok.lcmp_lt cx d2_105 d2_106 112 109 (by decide) rfl (fun c106 => ?_) (fun c106 => ?_)
    · skip
      exact J112 d (by omega)
    · skip
      refine Ok.iinc cx d2_109 rfl (1 : Int32) rfl (fun y => [.val (.long pn), .second, .val (.int y)]) (fun _ => rfl) 112 rfl fun t109 e109 => ?_
      have s109 := own_add e109 (by omega) (by omega)
      exact J112 t109 (by omega)
  have J90 : ∀ d : Int32, (100000000 ≤ m ∧ d.toInt = 9 ∨ m < 100000000 ∧ d.toInt = (own_dg m : Int)) → Ok W ({ frames := 0, cells := 0, slots := 0, locals := 0 } : Room) n0 (fun v' h' => h = h' ∧ ∃ x : Int32, v' = some (.int x) ∧ x.toInt = (own_dg m : Int)) h 0 0 90 [.val (.long pn), .second, .val (.int d)] [] := by
    intro d hd
    have hb := own_dgb (a := 100000000) (b := 1000000000) m 8 rfl rfl
    refine Ok.lloadN cx d2_90 rfl 91 rfl ?_
    refine Ok.ldc2 cx (own_w hw 20 rfl) d2_91 94 rfl ?_
    refine Ok.lcmp_lt cx d2_94 d2_95 101 98 (by decide) rfl (fun c95 => ?_) (fun c95 => ?_)
    · skip
      exact J101 d (by omega)
    · skip
      refine Ok.iinc cx d2_98 rfl (1 : Int32) rfl (fun y => [.val (.long pn), .second, .val (.int y)]) (fun _ => rfl) 101 rfl fun t98 e98 => ?_
      have s98 := own_add e98 (by omega) (by omega)
      exact J101 t98 (by omega)
  have J79 : ∀ d : Int32, (10000000 ≤ m ∧ d.toInt = 8 ∨ m < 10000000 ∧ d.toInt = (own_dg m : Int)) → Ok W ({ frames := 0, cells := 0, slots := 0, locals := 0 } : Room) n0 (fun v' h' => h = h' ∧ ∃ x : Int32, v' = some (.int x) ∧ x.toInt = (own_dg m : Int)) h 0 0 79 [.val (.long pn), .second, .val (.int d)] [] := by
    intro d hd
    have hb := own_dgb (a := 10000000) (b := 100000000) m 7 rfl rfl
    refine Ok.lloadN cx d2_79 rfl 80 rfl ?_
    refine Ok.ldc2 cx (own_w hw 19 rfl) d2_80 83 rfl ?_
    refine Ok.lcmp_lt cx d2_83 d2_84 90 87 (by decide) rfl (fun c84 => ?_) (fun c84 => ?_)
    · skip
      exact J90 d (by omega)
    · skip
      refine Ok.iinc cx d2_87 rfl (1 : Int32) rfl (fun y => [.val (.long pn), .second, .val (.int y)]) (fun _ => rfl) 90 rfl fun t87 e87 => ?_
      have s87 := own_add e87 (by omega) (by omega)
      exact J90 t87 (by omega)
  have J68 : ∀ d : Int32, (1000000 ≤ m ∧ d.toInt = 7 ∨ m < 1000000 ∧ d.toInt = (own_dg m : Int)) → Ok W ({ frames := 0, cells := 0, slots := 0, locals := 0 } : Room) n0 (fun v' h' => h = h' ∧ ∃ x : Int32, v' = some (.int x) ∧ x.toInt = (own_dg m : Int)) h 0 0 68 [.val (.long pn), .second, .val (.int d)] [] := by
    intro d hd
    have hb := own_dgb (a := 1000000) (b := 10000000) m 6 rfl rfl
    refine Ok.lloadN cx d2_68 rfl 69 rfl ?_
    refine Ok.ldc2 cx (own_w hw 18 rfl) d2_69 72 rfl ?_
    refine Ok.lcmp_lt cx d2_72 d2_73 79 76 (by decide) rfl (fun c73 => ?_) (fun c73 => ?_)
    · skip
      exact J79 d (by omega)
    · skip
      refine Ok.iinc cx d2_76 rfl (1 : Int32) rfl (fun y => [.val (.long pn), .second, .val (.int y)]) (fun _ => rfl) 79 rfl fun t76 e76 => ?_
      have s76 := own_add e76 (by omega) (by omega)
      exact J79 t76 (by omega)
  have J57 : ∀ d : Int32, (100000 ≤ m ∧ d.toInt = 6 ∨ m < 100000 ∧ d.toInt = (own_dg m : Int)) → Ok W ({ frames := 0, cells := 0, slots := 0, locals := 0 } : Room) n0 (fun v' h' => h = h' ∧ ∃ x : Int32, v' = some (.int x) ∧ x.toInt = (own_dg m : Int)) h 0 0 57 [.val (.long pn), .second, .val (.int d)] [] := by
    intro d hd
    have hb := own_dgb (a := 100000) (b := 1000000) m 5 rfl rfl
    refine Ok.lloadN cx d2_57 rfl 58 rfl ?_
    refine Ok.ldc2 cx (own_w hw 17 rfl) d2_58 61 rfl ?_
    refine Ok.lcmp_lt cx d2_61 d2_62 68 65 (by decide) rfl (fun c62 => ?_) (fun c62 => ?_)
    · skip
      exact J68 d (by omega)
    · skip
      refine Ok.iinc cx d2_65 rfl (1 : Int32) rfl (fun y => [.val (.long pn), .second, .val (.int y)]) (fun _ => rfl) 68 rfl fun t65 e65 => ?_
      have s65 := own_add e65 (by omega) (by omega)
      exact J68 t65 (by omega)
  have J46 : ∀ d : Int32, (10000 ≤ m ∧ d.toInt = 5 ∨ m < 10000 ∧ d.toInt = (own_dg m : Int)) → Ok W ({ frames := 0, cells := 0, slots := 0, locals := 0 } : Room) n0 (fun v' h' => h = h' ∧ ∃ x : Int32, v' = some (.int x) ∧ x.toInt = (own_dg m : Int)) h 0 0 46 [.val (.long pn), .second, .val (.int d)] [] := by
    intro d hd
    have hb := own_dgb (a := 10000) (b := 100000) m 4 rfl rfl
    refine Ok.lloadN cx d2_46 rfl 47 rfl ?_
    refine Ok.ldc2 cx (own_w hw 16 rfl) d2_47 50 rfl ?_
    refine Ok.lcmp_lt cx d2_50 d2_51 57 54 (by decide) rfl (fun c51 => ?_) (fun c51 => ?_)
    · skip
      exact J57 d (by omega)
    · skip
      refine Ok.iinc cx d2_54 rfl (1 : Int32) rfl (fun y => [.val (.long pn), .second, .val (.int y)]) (fun _ => rfl) 57 rfl fun t54 e54 => ?_
      have s54 := own_add e54 (by omega) (by omega)
      exact J57 t54 (by omega)
  have J35 : ∀ d : Int32, (1000 ≤ m ∧ d.toInt = 4 ∨ m < 1000 ∧ d.toInt = (own_dg m : Int)) → Ok W ({ frames := 0, cells := 0, slots := 0, locals := 0 } : Room) n0 (fun v' h' => h = h' ∧ ∃ x : Int32, v' = some (.int x) ∧ x.toInt = (own_dg m : Int)) h 0 0 35 [.val (.long pn), .second, .val (.int d)] [] := by
    intro d hd
    have hb := own_dgb (a := 1000) (b := 10000) m 3 rfl rfl
    refine Ok.lloadN cx d2_35 rfl 36 rfl ?_
    refine Ok.ldc2 cx (own_w hw 15 rfl) d2_36 39 rfl ?_
    refine Ok.lcmp_lt cx d2_39 d2_40 46 43 (by decide) rfl (fun c40 => ?_) (fun c40 => ?_)
    · skip
      exact J46 d (by omega)
    · skip
      refine Ok.iinc cx d2_43 rfl (1 : Int32) rfl (fun y => [.val (.long pn), .second, .val (.int y)]) (fun _ => rfl) 46 rfl fun t43 e43 => ?_
      have s43 := own_add e43 (by omega) (by omega)
      exact J46 t43 (by omega)
  have J24 : ∀ d : Int32, (100 ≤ m ∧ d.toInt = 3 ∨ m < 100 ∧ d.toInt = (own_dg m : Int)) → Ok W ({ frames := 0, cells := 0, slots := 0, locals := 0 } : Room) n0 (fun v' h' => h = h' ∧ ∃ x : Int32, v' = some (.int x) ∧ x.toInt = (own_dg m : Int)) h 0 0 24 [.val (.long pn), .second, .val (.int d)] [] := by
    intro d hd
    have hb := own_dgb (a := 100) (b := 1000) m 2 rfl rfl
    refine Ok.lloadN cx d2_24 rfl 25 rfl ?_
    refine Ok.ldc2 cx (own_w hw 14 rfl) d2_25 28 rfl ?_
    refine Ok.lcmp_lt cx d2_28 d2_29 35 32 (by decide) rfl (fun c29 => ?_) (fun c29 => ?_)
    · skip
      exact J35 d (by omega)
    · skip
      refine Ok.iinc cx d2_32 rfl (1 : Int32) rfl (fun y => [.val (.long pn), .second, .val (.int y)]) (fun _ => rfl) 35 rfl fun t32 e32 => ?_
      have s32 := own_add e32 (by omega) (by omega)
      exact J35 t32 (by omega)
  have J13 : ∀ d : Int32, (10 ≤ m ∧ d.toInt = 2 ∨ m < 10 ∧ d.toInt = (own_dg m : Int)) → Ok W ({ frames := 0, cells := 0, slots := 0, locals := 0 } : Room) n0 (fun v' h' => h = h' ∧ ∃ x : Int32, v' = some (.int x) ∧ x.toInt = (own_dg m : Int)) h 0 0 13 [.val (.long pn), .second, .val (.int d)] [] := by
    intro d hd
    have hb := own_dgb (a := 10) (b := 100) m 1 rfl rfl
    refine Ok.lloadN cx d2_13 rfl 14 rfl ?_
    refine Ok.ldc2 cx (own_w hw 13 rfl) d2_14 17 rfl ?_
    refine Ok.lcmp_lt cx d2_17 d2_18 24 21 (by decide) rfl (fun c18 => ?_) (fun c18 => ?_)
    · skip
      exact J24 d (by omega)
    · skip
      refine Ok.iinc cx d2_21 rfl (1 : Int32) rfl (fun y => [.val (.long pn), .second, .val (.int y)]) (fun _ => rfl) 24 rfl fun t21 e21 => ?_
      have s21 := own_add e21 (by omega) (by omega)
      exact J24 t21 (by omega)
  have hb := own_dgb (a := 1) (b := 10) m 0 rfl rfl
  refine Ok.iconst cx d2_0 1 rfl (1 : Int32) rfl ?_
  refine Ok.istoreN cx d2_1 rfl One.u [.val (.long pn), .second, .val (.int (1 : Int32))] rfl 2 rfl ?_
  refine Ok.lloadN cx d2_2 rfl 3 rfl ?_
  refine Ok.ldc2 cx (own_w hw 12 rfl) d2_3 6 rfl ?_
  refine Ok.lcmp_lt cx d2_6 d2_7 13 10 (by decide) rfl (fun c7 => ?_) (fun c7 => ?_)
  · skip
    exact J13 (1 : Int32) (by omega)
  · skip
    refine Ok.iinc cx d2_10 rfl (1 : Int32) rfl (fun y => [.val (.long pn), .second, .val (.int y)]) (fun _ => rfl) 13 rfl fun t10 e10 => ?_
    have s10 := own_add e10 (by omega) (by omega)
    exact J13 t10 (by omega)
theorem d3_0 : decode method_3_code 0 = .ok (.lload_n 0, 1) := by decide +kernel
theorem d3_1 : decode method_3_code 1 = .ok (.lconst 0, 1) := by decide +kernel
theorem d3_2 : decode method_3_code 2 = .ok (.lcmp, 1) := by decide +kernel
theorem d3_3 : decode method_3_code 3 = .ok (.ifCond .lt 10, 3) := by decide +kernel
theorem d3_6 : decode method_3_code 6 = .ok (.iload 4, 2) := by decide +kernel
theorem d3_8 : decode method_3_code 8 = .ok (.iload 5, 2) := by decide +kernel
theorem d3_10 : decode method_3_code 10 = .ok (.if_icmp .lt 5, 3) := by decide +kernel
theorem d3_13 : decode method_3_code 13 = .ok (.lload_n 0, 1) := by decide +kernel
theorem d3_14 : decode method_3_code 14 = .ok (.lreturn, 1) := by decide +kernel
theorem d3_15 : decode method_3_code 15 = .ok (.aload_n 2, 1) := by decide +kernel
theorem d3_16 : decode method_3_code 16 = .ok (.iload_n 3, 1) := by decide +kernel
theorem d3_17 : decode method_3_code 17 = .ok (.iload 4, 2) := by decide +kernel
theorem d3_19 : decode method_3_code 19 = .ok (.iadd, 1) := by decide +kernel
theorem d3_20 : decode method_3_code 20 = .ok (.baload, 1) := by decide +kernel
theorem d3_21 : decode method_3_code 21 = .ok (.bipush 48, 2) := by decide +kernel
theorem d3_23 : decode method_3_code 23 = .ok (.isub, 1) := by decide +kernel
theorem d3_24 : decode method_3_code 24 = .ok (.istore 6, 2) := by decide +kernel
theorem d3_26 : decode method_3_code 26 = .ok (.iload 6, 2) := by decide +kernel
theorem d3_28 : decode method_3_code 28 = .ok (.ifCond .lt 10, 3) := by decide +kernel
theorem d3_31 : decode method_3_code 31 = .ok (.iload 6, 2) := by decide +kernel
theorem d3_33 : decode method_3_code 33 = .ok (.bipush 9, 2) := by decide +kernel
theorem d3_35 : decode method_3_code 35 = .ok (.if_icmp .le 7, 3) := by decide +kernel
theorem d3_38 : decode method_3_code 38 = .ok (.ldc2_w 27, 3) := by decide +kernel
theorem d3_41 : decode method_3_code 41 = .ok (.lreturn, 1) := by decide +kernel
theorem d3_42 : decode method_3_code 42 = .ok (.lload_n 0, 1) := by decide +kernel
theorem d3_43 : decode method_3_code 43 = .ok (.ldc2_w 29, 3) := by decide +kernel
theorem d3_46 : decode method_3_code 46 = .ok (.lmul, 1) := by decide +kernel
theorem d3_47 : decode method_3_code 47 = .ok (.iload 6, 2) := by decide +kernel
theorem d3_49 : decode method_3_code 49 = .ok (.i2l, 1) := by decide +kernel
theorem d3_50 : decode method_3_code 50 = .ok (.ladd, 1) := by decide +kernel
theorem d3_51 : decode method_3_code 51 = .ok (.lreturn, 1) := by decide +kernel
theorem pn_3 : plainFor (⟨"com/example/cairnlog/cairnlog/server/LinkPutDecimalPinLaw", "acc", "(J[BIII)J"⟩ : MethodName) = true := by first | exact plainFor_of_name (by first | (simp [plainName, overriddenIn]; done) | decide +kernel) | decide +kernel
set_option maxRecDepth 65536 in
set_option maxHeartbeats 40000000 in
theorem rm_3 (l : Launch) (Z : State) (a0 : Array Value) (hw : ∀ d ∈ tables_1, d.before a0 Z = true) (v : Int64) (b : Addr) (at_ i d : Int32) (m A I : Nat) (vs : List Value) (h : Heap) (n0 : Nat) (Z0 : n0 ≤ h.size) (A_b : AI Z h b .byte vs) (P_b : own_P m (A + own_dg m) A vs) (hm : m < 9223372036854775808) (hA : A ≤ 7) (hD : own_dg m ≤ 19) (ha : at_.toInt = (A : Int)) (hi : i.toInt = (I : Int)) (hi18 : I ≤ 18) (hd : d.toInt = (own_dg m : Int)) (hv : v.toInt = ((m / 10 ^ (own_dg m - I) : Nat) : Int)) :
    Does l Z (⟨"com/example/cairnlog/cairnlog/server/LinkPutDecimalPinLaw", "acc", "(J[BIII)J"⟩ : MethodName) method_3_code 7 (some .long) ({ frames := 0, cells := 0, slots := 0, locals := 0 } : Room) #[(.long v), (.ref b), (.int at_), (.int i), (.int d)] h n0 (fun v' h' => h = h' ∧ ∃ x : Int64, v' = some (.long x) ∧ x.toInt = ((m / 10 ^ (own_dg m - (I + 1)) : Nat) : Int)) := by
  refine Does.of_body pn_3 [.val (.long v), .second, .val (.ref b), .val (.int at_), .val (.int i), .val (.int d), .unset] (fun m => by first | (simp [entryFrame, mkF, argsToLocals, Value.category]; done) | rfl) ?_
  intro W hWl cx
  subst hWl
  have cx : Cx W Z "com/example/cairnlog/cairnlog/server/LinkPutDecimalPinLaw" "acc" method_3_code 7 (some .long) := cx
  have l64_0 : (0 : Int64).toInt = 0 := rfl
  have l32_48 : (48 : Int32).toInt = 48 := rfl
  have l32_9 : (9 : Int32).toInt = 9 := rfl
  have l64_m1 : (-1 : Int64).toInt = -1 := rfl
  have l64_10 : (10 : Int64).toInt = 10 := rfl
  have hv0 : 0 ≤ v.toInt := by rw [hv]; exact Int.natCast_nonneg _
  refine Ok.lloadN cx d3_0 rfl 1 rfl ?_
  refine Ok.lconst cx d3_1 2 rfl (0 : Int64) rfl ?_
  refine Ok.lcmp_lt cx d3_2 d3_3 13 6 (by decide) rfl (fun c3 => by exfalso; omega) (fun c3 => ?_)
  refine Ok.iload cx d3_6 rfl 8 rfl ?_
  refine Ok.iload cx d3_8 rfl 10 rfl ?_
  refine Ok.icmp_lt cx d3_10 15 13 (by decide) rfl (fun c10 => ?_) (fun c10 => ?_)
  · skip
    refine Ok.aloadN cx d3_15 rfl 16 rfl ?_
    refine Ok.iloadN cx d3_16 rfl 17 rfl ?_
    refine Ok.iload cx d3_17 rfl 19 rfl ?_
    refine Ok.iadd cx d3_19 20 rfl fun t19 e19 => ?_
    have s19 := own_add e19 (by omega) (by omega)
    have hI : I < own_dg m := by omega
    obtain ⟨z, hz, hzv⟩ := (P_b.2 (A + I) (by omega)).1 (by omega)
    rw [show A + own_dg m - (A + I + 1) = own_dg m - (I + 1) by omega] at hzv
    rw [show own_dg m - I = own_dg m - (I + 1) + 1 by omega, own_shift] at hv
    have hX : m / 10 ^ (own_dg m - (I + 1)) ≤ m := Nat.div_le_self _ _
    generalize m / 10 ^ (own_dg m - (I + 1)) = X at *
    refine Ok.baload cx d3_20 A_b (A + I) (by omega) (v := (.int z)) hz 21 rfl ?_
    refine Ok.bipush cx d3_21 23 rfl (48 : Int32) rfl ?_
    refine Ok.isub cx d3_23 24 rfl fun t23 e23 => ?_
    have s23 := own_sub e23 (by omega) (by omega)
    refine Ok.istore cx d3_24 rfl One.u [.val (.long v), .second, .val (.ref b), .val (.int at_), .val (.int i), .val (.int d), .val (.int t23)] rfl 26 rfl ?_
    refine Ok.iload cx d3_26 rfl 28 rfl ?_
    refine Ok.if_lt cx d3_28 38 31 (by decide) rfl (fun c28 => by exfalso; omega) (fun c28 => ?_)
    refine Ok.iload cx d3_31 rfl 33 rfl ?_
    refine Ok.bipush cx d3_33 35 rfl (9 : Int32) rfl ?_
    refine Ok.icmp_le cx d3_35 42 38 (by decide) rfl (fun c35 => ?_) (fun c35 => by exfalso; omega)
    refine Ok.lloadN cx d3_42 rfl 43 rfl ?_
    refine Ok.ldc2 cx (own_w hw 12 rfl) d3_43 46 rfl ?_
    refine Ok.lmul cx d3_46 47 rfl fun t46 e46 => ?_
    refine Ok.iload cx d3_47 rfl 49 rfl ?_
    refine Ok.i2l cx d3_49 50 rfl fun t49 e49 => ?_
    have s46 := own_lmul10 e46 (by omega) (by omega)
    have s49 := c_i2l t23; rw [← e49] at s49
    refine Ok.ladd cx d3_50 51 rfl fun t50 e50 => ?_
    have s50 := own_ladd e50 (by omega) (by omega)
    exact Ok.lreturn cx d3_51 (by decide) (by decide) ⟨rfl, _, rfl, by omega⟩
  · skip
    refine Ok.lloadN cx d3_13 rfl 14 rfl ?_
    exact Ok.lreturn cx d3_14 (by decide) (by decide) ⟨rfl, _, rfl, by rw [hv, show own_dg m - I = own_dg m - (I + 1) by omega]⟩
theorem pn_0 : plainFor x = true := by first | exact plainFor_of_name (by first | (simp [plainName, overriddenIn]; done) | decide +kernel) | decide +kernel
theorem pd_0 : parseMethodDescriptor "(J[BI)I" = some ⟨[.long, (.array .byte), .int], some .int⟩ := by decide +kernel
theorem pd_1 : parseMethodDescriptor "(J)I" = some ⟨[.long], some .int⟩ := by decide +kernel
theorem pd_2 : parseMethodDescriptor "(J[BIII)J" = some ⟨[.long, (.array .byte), .int, .int, .int], some .long⟩ := by decide +kernel
set_option maxRecDepth 65536 in
set_option maxHeartbeats 40000000 in
theorem rm_0 (l : Launch) (Z : State) (a0 : Array Value) (hw : ∀ d ∈ tables_1, d.before a0 Z = true) (p0 : Int64) (p1 p2 : Int32) (h : Heap) (n0 : Nat) (Z0 : n0 ≤ h.size)  :
    DoesW l Z x code maxLocals ret room_1 tables_1 #[(.long p0), (.int p1), (.int p2)] h n0 (fun v _ => v = some (.int 1)) := by
  refine DoesW.of_body pn_0 [.val (.long p0), .second, .val (.int p1), .val (.int p2), .unset, .unset, .unset, .unset, .unset, .unset, .unset, .unset] (fun m => by first | (simp [entryFrame, mkF, argsToLocals, Value.category, maxLocals]; done) | rfl) ?_
  intro W hWl cx
  subst hWl
  have cx : Cx W Z "com/example/cairnlog/cairnlog/server/LinkPutDecimalPinLaw" "law" code 12 (some .boolean) := cx
  have lz1 : ((1 : Int32) &&& 1).toInt = 1 := rfl
  have lz0 : ((0 : Int32) &&& 1).toInt = 0 := rfl
  have l32_63 : (63 : Int32).toInt = 63 := rfl
  have l32_7 : (7 : Int32).toInt = 7 := rfl
  have l32_27 : (27 : Int32).toInt = 27 := rfl
  have l32_0 : (0 : Int32).toInt = 0 := rfl
  have l32_1 : (1 : Int32).toInt = 1 := rfl
  have l64_0 : (0 : Int64).toInt = 0 := rfl
  refine Ok.lloadN cx at_0 rfl 1 rfl ?_
  refine Ok.ldc2 cx (own_w hw 0 rfl) at_1 4 rfl ?_
  refine Ok.land cx at_4 5 rfl fun t4 e4 => ?_
  refine Ok.iloadN cx at_5 rfl 6 rfl ?_
  refine Ok.bipush cx at_6 8 rfl (63 : Int32) rfl ?_
  refine Ok.iand cx at_8 9 rfl fun t8 e8 => ?_
  refine Ok.lushr cx at_9 10 rfl fun t9 e9 => ?_
  have m4 := c_maskL p0 9223372036854775807 63 (by decide) (by decide); rw [← e4] at m4
  have hn0 := own_ushr e9 (by omega)
  clear m4
  obtain ⟨m, hn⟩ : ∃ m : Nat, t9.toInt = (m : Int) := ⟨t9.toInt.toNat, by omega⟩
  have hm : m < 9223372036854775808 := by have := rng64 t9; omega
  have hD19 : own_dg m ≤ 19 := own_dg_le (i := 18) (by omega)
  have hD1 := own_dg1 m
  refine Ok.lstore cx at_10 [.val (.long p0), .second, .val (.int p1), .val (.int p2), .val (.long t9), .second, .unset, .unset, .unset, .unset, .unset, .unset] rfl 12 rfl ?_
  refine Ok.iloadN cx at_12 rfl 13 rfl ?_
  refine Ok.bipush cx at_13 15 rfl (7 : Int32) rfl ?_
  refine Ok.iand cx at_15 16 rfl fun t15 e15 => ?_
  have m15 := c_mask p2 7 3 (by decide) (by decide); rw [← e15] at m15
  obtain ⟨A, ha, hA⟩ : ∃ A : Nat, t15.toInt = (A : Int) ∧ A ≤ 7 := ⟨t15.toInt.toNat, by omega, by omega⟩
  clear m15
  refine Ok.istore cx at_16 rfl One.u [.val (.long p0), .second, .val (.int p1), .val (.int p2), .val (.long t9), .second, .val (.int t15), .unset, .unset, .unset, .unset, .unset] rfl 18 rfl ?_
  refine Ok.bipush cx at_18 20 rfl (27 : Int32) rfl ?_
  refine Ok.newarray cx (own_w hw 1 rfl) at_20 rfl (27) rfl (by omega) 27 (by omega) (by omega) (by decide) (by decide) 22 rfl fun h20_ b g20 E20 V20 => ?_
  have zb : n0 ≤ b := by rw [g20]; exact Z0
  have Z0 := Nat.le_trans Z0 E20.1
  refine Ok.astore cx at_22 rfl One.u [.val (.long p0), .second, .val (.int p1), .val (.int p2), .val (.long t9), .second, .val (.int t15), .val (.ref b), .unset, .unset, .unset, .unset] rfl 24 rfl ?_
  refine Ok.lload cx at_24 rfl 26 rfl ?_
  refine Ok.aload cx at_26 rfl 28 rfl ?_
  refine Ok.iload cx at_28 rfl 30 rfl ?_
  refine Ok.callStatic cx [(.long t9), (.ref b), (.int t15)] [] rfl (own_w hw 2 rfl) (own_w hw 3 rfl) (own_w hw 4 rfl) (own_w hw 5 rfl) at_30 (by decide) pd_0 rfl rfl  (rm_1 W.l Z a0 hw t9 b t15 m A _ h20_ n0 Z0 V20 (own_P0 m _) zb hn hm ha hA) (by decide) 0 rfl (by decide) (by decide) (by decide) 33 rfl fun v30 h30_ q30 => ?_
  obtain ⟨Z0, r30, vs, rfl, x30, A_b, P_b⟩ := q30
  show Ok _ _ _ _ _ _ _ _ _ [(.int r30)]
  refine Ok.istore cx at_33 rfl One.u [.val (.long p0), .second, .val (.int p1), .val (.int p2), .val (.long t9), .second, .val (.int t15), .val (.ref b), .val (.int r30), .unset, .unset, .unset] rfl 35 rfl ?_
  refine Ok.lload cx at_35 rfl 37 rfl ?_
  refine Ok.callStatic cx [(.long t9)] [] rfl (own_w hw 8 rfl) (own_w hw 9 rfl) (own_w hw 10 rfl) (own_w hw 11 rfl) at_37 (by decide) pd_1 rfl rfl  (rm_2 W.l Z a0 hw t9 m h30_ n0 Z0 hn hm) (by decide) 0 rfl (by decide) (by decide) (by decide) 40 rfl fun v37 h37_ q37 => ?_
  obtain ⟨rfl, r37, rfl, x37⟩ := q37
  show Ok _ _ _ _ _ _ _ _ _ [(.int r37)]
  refine Ok.istore cx at_40 rfl One.u [.val (.long p0), .second, .val (.int p1), .val (.int p2), .val (.long t9), .second, .val (.int t15), .val (.ref b), .val (.int r30), .val (.int r37), .unset, .unset] rfl 42 rfl ?_
  refine Ok.iload cx at_42 rfl 44 rfl ?_
  refine Ok.iload cx at_44 rfl 46 rfl ?_
  refine Ok.iload cx at_46 rfl 48 rfl ?_
  refine Ok.iadd cx at_48 49 rfl fun t48 e48 => ?_
  have s48 := own_add e48 (by omega) (by omega)
  refine Ok.icmp_eq cx at_49 54 52 (by decide) rfl (fun c49 => ?_) (fun c49 => by exfalso; omega)
  refine Ok.aload cx at_54 rfl 56 rfl ?_
  refine Ok.iload cx at_56 rfl 58 rfl ?_
  refine Ok.baload cx at_58 A_b (A + own_dg m) x30 (v := (.int (0 : Int32))) ((P_b.2 (A + own_dg m) (by omega)).2 (by omega)) 59 rfl ?_
  refine Ok.if_eq cx at_59 64 62 (by decide) rfl (fun c59 => ?_) (fun c59 => by exfalso; omega)
  refine Ok.iload cx at_64 rfl 66 rfl ?_
  refine Ok.if_le cx at_66 81 69 (by decide) rfl (fun c66 => ?_) (fun c66 => ?_)
  · skip
    refine Ok.lconst cx at_81 82 rfl (0 : Int64) rfl ?_
    refine Ok.lstore cx at_82 [.val (.long p0), .second, .val (.int p1), .val (.int p2), .val (.long t9), .second, .val (.int t15), .val (.ref b), .val (.int r30), .val (.int r37), .val (.long (0 : Int64)), .second] rfl 84 rfl ?_
    refine Ok.lload cx at_84 rfl 86 rfl ?_
    refine Ok.aload cx at_86 rfl 88 rfl ?_
    refine Ok.iload cx at_88 rfl 90 rfl ?_
    refine Ok.iconst cx at_90 91 rfl (0 : Int32) rfl ?_
    refine Ok.iload cx at_91 rfl 93 rfl ?_
    refine Ok.callStatic cx [(.long (0 : Int64)), (.ref b), (.int t15), (.int (0 : Int32)), (.int r37)] [] rfl (own_w hw 30 rfl) (own_w hw 31 rfl) (own_w hw 10 rfl) (own_w hw 32 rfl) at_93 (by decide) pd_2 rfl rfl  (rm_3 W.l Z a0 hw (0 : Int64) b t15 (0 : Int32) r37 m A 0 vs h30_ n0 Z0 A_b P_b hm hA hD19 ha rfl (by decide) x37 (by rw [Nat.sub_zero, Nat.div_eq_of_lt (own_dg_lt m)]; rfl)) (by decide) 0 rfl (by decide) (by decide) (by decide) 96 rfl fun v93 h93_ q93 => ?_
    obtain ⟨rfl, r93, rfl, x93⟩ := q93
    show Ok _ _ _ _ _ _ _ _ _ [(.long r93)]
    refine Ok.lstore cx at_96 [.val (.long p0), .second, .val (.int p1), .val (.int p2), .val (.long t9), .second, .val (.int t15), .val (.ref b), .val (.int r30), .val (.int r37), .val (.long r93), .second] rfl 98 rfl ?_
    refine Ok.lload cx at_98 rfl 100 rfl ?_
    refine Ok.aload cx at_100 rfl 102 rfl ?_
    refine Ok.iload cx at_102 rfl 104 rfl ?_
    refine Ok.iconst cx at_104 105 rfl (1 : Int32) rfl ?_
    refine Ok.iload cx at_105 rfl 107 rfl ?_
    refine Ok.callStatic cx [(.long r93), (.ref b), (.int t15), (.int (1 : Int32)), (.int r37)] [] rfl (own_w hw 30 rfl) (own_w hw 31 rfl) (own_w hw 10 rfl) (own_w hw 32 rfl) at_107 (by decide) pd_2 rfl rfl  (rm_3 W.l Z a0 hw r93 b t15 (1 : Int32) r37 m A 1 vs h30_ n0 Z0 A_b P_b hm hA hD19 ha rfl (by decide) x37 x93) (by decide) 0 rfl (by decide) (by decide) (by decide) 110 rfl fun v107 h107_ q107 => ?_
    obtain ⟨rfl, r107, rfl, x107⟩ := q107
    show Ok _ _ _ _ _ _ _ _ _ [(.long r107)]
    refine Ok.lstore cx at_110 [.val (.long p0), .second, .val (.int p1), .val (.int p2), .val (.long t9), .second, .val (.int t15), .val (.ref b), .val (.int r30), .val (.int r37), .val (.long r107), .second] rfl 112 rfl ?_
    refine Ok.lload cx at_112 rfl 114 rfl ?_
    refine Ok.aload cx at_114 rfl 116 rfl ?_
    refine Ok.iload cx at_116 rfl 118 rfl ?_
    refine Ok.iconst cx at_118 119 rfl (2 : Int32) rfl ?_
    refine Ok.iload cx at_119 rfl 121 rfl ?_
    refine Ok.callStatic cx [(.long r107), (.ref b), (.int t15), (.int (2 : Int32)), (.int r37)] [] rfl (own_w hw 30 rfl) (own_w hw 31 rfl) (own_w hw 10 rfl) (own_w hw 32 rfl) at_121 (by decide) pd_2 rfl rfl  (rm_3 W.l Z a0 hw r107 b t15 (2 : Int32) r37 m A 2 vs h30_ n0 Z0 A_b P_b hm hA hD19 ha rfl (by decide) x37 x107) (by decide) 0 rfl (by decide) (by decide) (by decide) 124 rfl fun v121 h121_ q121 => ?_
    obtain ⟨rfl, r121, rfl, x121⟩ := q121
    show Ok _ _ _ _ _ _ _ _ _ [(.long r121)]
    refine Ok.lstore cx at_124 [.val (.long p0), .second, .val (.int p1), .val (.int p2), .val (.long t9), .second, .val (.int t15), .val (.ref b), .val (.int r30), .val (.int r37), .val (.long r121), .second] rfl 126 rfl ?_
    refine Ok.lload cx at_126 rfl 128 rfl ?_
    refine Ok.aload cx at_128 rfl 130 rfl ?_
    refine Ok.iload cx at_130 rfl 132 rfl ?_
    refine Ok.iconst cx at_132 133 rfl (3 : Int32) rfl ?_
    refine Ok.iload cx at_133 rfl 135 rfl ?_
    refine Ok.callStatic cx [(.long r121), (.ref b), (.int t15), (.int (3 : Int32)), (.int r37)] [] rfl (own_w hw 30 rfl) (own_w hw 31 rfl) (own_w hw 10 rfl) (own_w hw 32 rfl) at_135 (by decide) pd_2 rfl rfl  (rm_3 W.l Z a0 hw r121 b t15 (3 : Int32) r37 m A 3 vs h30_ n0 Z0 A_b P_b hm hA hD19 ha rfl (by decide) x37 x121) (by decide) 0 rfl (by decide) (by decide) (by decide) 138 rfl fun v135 h135_ q135 => ?_
    obtain ⟨rfl, r135, rfl, x135⟩ := q135
    show Ok _ _ _ _ _ _ _ _ _ [(.long r135)]
    refine Ok.lstore cx at_138 [.val (.long p0), .second, .val (.int p1), .val (.int p2), .val (.long t9), .second, .val (.int t15), .val (.ref b), .val (.int r30), .val (.int r37), .val (.long r135), .second] rfl 140 rfl ?_
    refine Ok.lload cx at_140 rfl 142 rfl ?_
    refine Ok.aload cx at_142 rfl 144 rfl ?_
    refine Ok.iload cx at_144 rfl 146 rfl ?_
    refine Ok.iconst cx at_146 147 rfl (4 : Int32) rfl ?_
    refine Ok.iload cx at_147 rfl 149 rfl ?_
    refine Ok.callStatic cx [(.long r135), (.ref b), (.int t15), (.int (4 : Int32)), (.int r37)] [] rfl (own_w hw 30 rfl) (own_w hw 31 rfl) (own_w hw 10 rfl) (own_w hw 32 rfl) at_149 (by decide) pd_2 rfl rfl  (rm_3 W.l Z a0 hw r135 b t15 (4 : Int32) r37 m A 4 vs h30_ n0 Z0 A_b P_b hm hA hD19 ha rfl (by decide) x37 x135) (by decide) 0 rfl (by decide) (by decide) (by decide) 152 rfl fun v149 h149_ q149 => ?_
    obtain ⟨rfl, r149, rfl, x149⟩ := q149
    show Ok _ _ _ _ _ _ _ _ _ [(.long r149)]
    refine Ok.lstore cx at_152 [.val (.long p0), .second, .val (.int p1), .val (.int p2), .val (.long t9), .second, .val (.int t15), .val (.ref b), .val (.int r30), .val (.int r37), .val (.long r149), .second] rfl 154 rfl ?_
    refine Ok.lload cx at_154 rfl 156 rfl ?_
    refine Ok.aload cx at_156 rfl 158 rfl ?_
    refine Ok.iload cx at_158 rfl 160 rfl ?_
    refine Ok.iconst cx at_160 161 rfl (5 : Int32) rfl ?_
    refine Ok.iload cx at_161 rfl 163 rfl ?_
    refine Ok.callStatic cx [(.long r149), (.ref b), (.int t15), (.int (5 : Int32)), (.int r37)] [] rfl (own_w hw 30 rfl) (own_w hw 31 rfl) (own_w hw 10 rfl) (own_w hw 32 rfl) at_163 (by decide) pd_2 rfl rfl  (rm_3 W.l Z a0 hw r149 b t15 (5 : Int32) r37 m A 5 vs h30_ n0 Z0 A_b P_b hm hA hD19 ha rfl (by decide) x37 x149) (by decide) 0 rfl (by decide) (by decide) (by decide) 166 rfl fun v163 h163_ q163 => ?_
    obtain ⟨rfl, r163, rfl, x163⟩ := q163
    show Ok _ _ _ _ _ _ _ _ _ [(.long r163)]
    refine Ok.lstore cx at_166 [.val (.long p0), .second, .val (.int p1), .val (.int p2), .val (.long t9), .second, .val (.int t15), .val (.ref b), .val (.int r30), .val (.int r37), .val (.long r163), .second] rfl 168 rfl ?_
    refine Ok.lload cx at_168 rfl 170 rfl ?_
    refine Ok.aload cx at_170 rfl 172 rfl ?_
    refine Ok.iload cx at_172 rfl 174 rfl ?_
    refine Ok.bipush cx at_174 176 rfl (6 : Int32) rfl ?_
    refine Ok.iload cx at_176 rfl 178 rfl ?_
    refine Ok.callStatic cx [(.long r163), (.ref b), (.int t15), (.int (6 : Int32)), (.int r37)] [] rfl (own_w hw 30 rfl) (own_w hw 31 rfl) (own_w hw 10 rfl) (own_w hw 32 rfl) at_178 (by decide) pd_2 rfl rfl  (rm_3 W.l Z a0 hw r163 b t15 (6 : Int32) r37 m A 6 vs h30_ n0 Z0 A_b P_b hm hA hD19 ha rfl (by decide) x37 x163) (by decide) 0 rfl (by decide) (by decide) (by decide) 181 rfl fun v178 h178_ q178 => ?_
    obtain ⟨rfl, r178, rfl, x178⟩ := q178
    show Ok _ _ _ _ _ _ _ _ _ [(.long r178)]
    refine Ok.lstore cx at_181 [.val (.long p0), .second, .val (.int p1), .val (.int p2), .val (.long t9), .second, .val (.int t15), .val (.ref b), .val (.int r30), .val (.int r37), .val (.long r178), .second] rfl 183 rfl ?_
    refine Ok.lload cx at_183 rfl 185 rfl ?_
    refine Ok.aload cx at_185 rfl 187 rfl ?_
    refine Ok.iload cx at_187 rfl 189 rfl ?_
    refine Ok.bipush cx at_189 191 rfl (7 : Int32) rfl ?_
    refine Ok.iload cx at_191 rfl 193 rfl ?_
    refine Ok.callStatic cx [(.long r178), (.ref b), (.int t15), (.int (7 : Int32)), (.int r37)] [] rfl (own_w hw 30 rfl) (own_w hw 31 rfl) (own_w hw 10 rfl) (own_w hw 32 rfl) at_193 (by decide) pd_2 rfl rfl  (rm_3 W.l Z a0 hw r178 b t15 (7 : Int32) r37 m A 7 vs h30_ n0 Z0 A_b P_b hm hA hD19 ha rfl (by decide) x37 x178) (by decide) 0 rfl (by decide) (by decide) (by decide) 196 rfl fun v193 h193_ q193 => ?_
    obtain ⟨rfl, r193, rfl, x193⟩ := q193
    show Ok _ _ _ _ _ _ _ _ _ [(.long r193)]
    refine Ok.lstore cx at_196 [.val (.long p0), .second, .val (.int p1), .val (.int p2), .val (.long t9), .second, .val (.int t15), .val (.ref b), .val (.int r30), .val (.int r37), .val (.long r193), .second] rfl 198 rfl ?_
    refine Ok.lload cx at_198 rfl 200 rfl ?_
    refine Ok.aload cx at_200 rfl 202 rfl ?_
    refine Ok.iload cx at_202 rfl 204 rfl ?_
    refine Ok.bipush cx at_204 206 rfl (8 : Int32) rfl ?_
    refine Ok.iload cx at_206 rfl 208 rfl ?_
    refine Ok.callStatic cx [(.long r193), (.ref b), (.int t15), (.int (8 : Int32)), (.int r37)] [] rfl (own_w hw 30 rfl) (own_w hw 31 rfl) (own_w hw 10 rfl) (own_w hw 32 rfl) at_208 (by decide) pd_2 rfl rfl  (rm_3 W.l Z a0 hw r193 b t15 (8 : Int32) r37 m A 8 vs h30_ n0 Z0 A_b P_b hm hA hD19 ha rfl (by decide) x37 x193) (by decide) 0 rfl (by decide) (by decide) (by decide) 211 rfl fun v208 h208_ q208 => ?_
    obtain ⟨rfl, r208, rfl, x208⟩ := q208
    show Ok _ _ _ _ _ _ _ _ _ [(.long r208)]
    refine Ok.lstore cx at_211 [.val (.long p0), .second, .val (.int p1), .val (.int p2), .val (.long t9), .second, .val (.int t15), .val (.ref b), .val (.int r30), .val (.int r37), .val (.long r208), .second] rfl 213 rfl ?_
    refine Ok.lload cx at_213 rfl 215 rfl ?_
    refine Ok.aload cx at_215 rfl 217 rfl ?_
    refine Ok.iload cx at_217 rfl 219 rfl ?_
    refine Ok.bipush cx at_219 221 rfl (9 : Int32) rfl ?_
    refine Ok.iload cx at_221 rfl 223 rfl ?_
    refine Ok.callStatic cx [(.long r208), (.ref b), (.int t15), (.int (9 : Int32)), (.int r37)] [] rfl (own_w hw 30 rfl) (own_w hw 31 rfl) (own_w hw 10 rfl) (own_w hw 32 rfl) at_223 (by decide) pd_2 rfl rfl  (rm_3 W.l Z a0 hw r208 b t15 (9 : Int32) r37 m A 9 vs h30_ n0 Z0 A_b P_b hm hA hD19 ha rfl (by decide) x37 x208) (by decide) 0 rfl (by decide) (by decide) (by decide) 226 rfl fun v223 h223_ q223 => ?_
    obtain ⟨rfl, r223, rfl, x223⟩ := q223
    show Ok _ _ _ _ _ _ _ _ _ [(.long r223)]
    refine Ok.lstore cx at_226 [.val (.long p0), .second, .val (.int p1), .val (.int p2), .val (.long t9), .second, .val (.int t15), .val (.ref b), .val (.int r30), .val (.int r37), .val (.long r223), .second] rfl 228 rfl ?_
    refine Ok.lload cx at_228 rfl 230 rfl ?_
    refine Ok.aload cx at_230 rfl 232 rfl ?_
    refine Ok.iload cx at_232 rfl 234 rfl ?_
    refine Ok.bipush cx at_234 236 rfl (10 : Int32) rfl ?_
    refine Ok.iload cx at_236 rfl 238 rfl ?_
    refine Ok.callStatic cx [(.long r223), (.ref b), (.int t15), (.int (10 : Int32)), (.int r37)] [] rfl (own_w hw 30 rfl) (own_w hw 31 rfl) (own_w hw 10 rfl) (own_w hw 32 rfl) at_238 (by decide) pd_2 rfl rfl  (rm_3 W.l Z a0 hw r223 b t15 (10 : Int32) r37 m A 10 vs h30_ n0 Z0 A_b P_b hm hA hD19 ha rfl (by decide) x37 x223) (by decide) 0 rfl (by decide) (by decide) (by decide) 241 rfl fun v238 h238_ q238 => ?_
    obtain ⟨rfl, r238, rfl, x238⟩ := q238
    show Ok _ _ _ _ _ _ _ _ _ [(.long r238)]
    refine Ok.lstore cx at_241 [.val (.long p0), .second, .val (.int p1), .val (.int p2), .val (.long t9), .second, .val (.int t15), .val (.ref b), .val (.int r30), .val (.int r37), .val (.long r238), .second] rfl 243 rfl ?_
    refine Ok.lload cx at_243 rfl 245 rfl ?_
    refine Ok.aload cx at_245 rfl 247 rfl ?_
    refine Ok.iload cx at_247 rfl 249 rfl ?_
    refine Ok.bipush cx at_249 251 rfl (11 : Int32) rfl ?_
    refine Ok.iload cx at_251 rfl 253 rfl ?_
    refine Ok.callStatic cx [(.long r238), (.ref b), (.int t15), (.int (11 : Int32)), (.int r37)] [] rfl (own_w hw 30 rfl) (own_w hw 31 rfl) (own_w hw 10 rfl) (own_w hw 32 rfl) at_253 (by decide) pd_2 rfl rfl  (rm_3 W.l Z a0 hw r238 b t15 (11 : Int32) r37 m A 11 vs h30_ n0 Z0 A_b P_b hm hA hD19 ha rfl (by decide) x37 x238) (by decide) 0 rfl (by decide) (by decide) (by decide) 256 rfl fun v253 h253_ q253 => ?_
    obtain ⟨rfl, r253, rfl, x253⟩ := q253
    show Ok _ _ _ _ _ _ _ _ _ [(.long r253)]
    refine Ok.lstore cx at_256 [.val (.long p0), .second, .val (.int p1), .val (.int p2), .val (.long t9), .second, .val (.int t15), .val (.ref b), .val (.int r30), .val (.int r37), .val (.long r253), .second] rfl 258 rfl ?_
    refine Ok.lload cx at_258 rfl 260 rfl ?_
    refine Ok.aload cx at_260 rfl 262 rfl ?_
    refine Ok.iload cx at_262 rfl 264 rfl ?_
    refine Ok.bipush cx at_264 266 rfl (12 : Int32) rfl ?_
    refine Ok.iload cx at_266 rfl 268 rfl ?_
    refine Ok.callStatic cx [(.long r253), (.ref b), (.int t15), (.int (12 : Int32)), (.int r37)] [] rfl (own_w hw 30 rfl) (own_w hw 31 rfl) (own_w hw 10 rfl) (own_w hw 32 rfl) at_268 (by decide) pd_2 rfl rfl  (rm_3 W.l Z a0 hw r253 b t15 (12 : Int32) r37 m A 12 vs h30_ n0 Z0 A_b P_b hm hA hD19 ha rfl (by decide) x37 x253) (by decide) 0 rfl (by decide) (by decide) (by decide) 271 rfl fun v268 h268_ q268 => ?_
    obtain ⟨rfl, r268, rfl, x268⟩ := q268
    show Ok _ _ _ _ _ _ _ _ _ [(.long r268)]
    refine Ok.lstore cx at_271 [.val (.long p0), .second, .val (.int p1), .val (.int p2), .val (.long t9), .second, .val (.int t15), .val (.ref b), .val (.int r30), .val (.int r37), .val (.long r268), .second] rfl 273 rfl ?_
    refine Ok.lload cx at_273 rfl 275 rfl ?_
    refine Ok.aload cx at_275 rfl 277 rfl ?_
    refine Ok.iload cx at_277 rfl 279 rfl ?_
    refine Ok.bipush cx at_279 281 rfl (13 : Int32) rfl ?_
    refine Ok.iload cx at_281 rfl 283 rfl ?_
    refine Ok.callStatic cx [(.long r268), (.ref b), (.int t15), (.int (13 : Int32)), (.int r37)] [] rfl (own_w hw 30 rfl) (own_w hw 31 rfl) (own_w hw 10 rfl) (own_w hw 32 rfl) at_283 (by decide) pd_2 rfl rfl  (rm_3 W.l Z a0 hw r268 b t15 (13 : Int32) r37 m A 13 vs h30_ n0 Z0 A_b P_b hm hA hD19 ha rfl (by decide) x37 x268) (by decide) 0 rfl (by decide) (by decide) (by decide) 286 rfl fun v283 h283_ q283 => ?_
    obtain ⟨rfl, r283, rfl, x283⟩ := q283
    show Ok _ _ _ _ _ _ _ _ _ [(.long r283)]
    refine Ok.lstore cx at_286 [.val (.long p0), .second, .val (.int p1), .val (.int p2), .val (.long t9), .second, .val (.int t15), .val (.ref b), .val (.int r30), .val (.int r37), .val (.long r283), .second] rfl 288 rfl ?_
    refine Ok.lload cx at_288 rfl 290 rfl ?_
    refine Ok.aload cx at_290 rfl 292 rfl ?_
    refine Ok.iload cx at_292 rfl 294 rfl ?_
    refine Ok.bipush cx at_294 296 rfl (14 : Int32) rfl ?_
    refine Ok.iload cx at_296 rfl 298 rfl ?_
    refine Ok.callStatic cx [(.long r283), (.ref b), (.int t15), (.int (14 : Int32)), (.int r37)] [] rfl (own_w hw 30 rfl) (own_w hw 31 rfl) (own_w hw 10 rfl) (own_w hw 32 rfl) at_298 (by decide) pd_2 rfl rfl  (rm_3 W.l Z a0 hw r283 b t15 (14 : Int32) r37 m A 14 vs h30_ n0 Z0 A_b P_b hm hA hD19 ha rfl (by decide) x37 x283) (by decide) 0 rfl (by decide) (by decide) (by decide) 301 rfl fun v298 h298_ q298 => ?_
    obtain ⟨rfl, r298, rfl, x298⟩ := q298
    show Ok _ _ _ _ _ _ _ _ _ [(.long r298)]
    refine Ok.lstore cx at_301 [.val (.long p0), .second, .val (.int p1), .val (.int p2), .val (.long t9), .second, .val (.int t15), .val (.ref b), .val (.int r30), .val (.int r37), .val (.long r298), .second] rfl 303 rfl ?_
    refine Ok.lload cx at_303 rfl 305 rfl ?_
    refine Ok.aload cx at_305 rfl 307 rfl ?_
    refine Ok.iload cx at_307 rfl 309 rfl ?_
    refine Ok.bipush cx at_309 311 rfl (15 : Int32) rfl ?_
    refine Ok.iload cx at_311 rfl 313 rfl ?_
    refine Ok.callStatic cx [(.long r298), (.ref b), (.int t15), (.int (15 : Int32)), (.int r37)] [] rfl (own_w hw 30 rfl) (own_w hw 31 rfl) (own_w hw 10 rfl) (own_w hw 32 rfl) at_313 (by decide) pd_2 rfl rfl  (rm_3 W.l Z a0 hw r298 b t15 (15 : Int32) r37 m A 15 vs h30_ n0 Z0 A_b P_b hm hA hD19 ha rfl (by decide) x37 x298) (by decide) 0 rfl (by decide) (by decide) (by decide) 316 rfl fun v313 h313_ q313 => ?_
    obtain ⟨rfl, r313, rfl, x313⟩ := q313
    show Ok _ _ _ _ _ _ _ _ _ [(.long r313)]
    refine Ok.lstore cx at_316 [.val (.long p0), .second, .val (.int p1), .val (.int p2), .val (.long t9), .second, .val (.int t15), .val (.ref b), .val (.int r30), .val (.int r37), .val (.long r313), .second] rfl 318 rfl ?_
    refine Ok.lload cx at_318 rfl 320 rfl ?_
    refine Ok.aload cx at_320 rfl 322 rfl ?_
    refine Ok.iload cx at_322 rfl 324 rfl ?_
    refine Ok.bipush cx at_324 326 rfl (16 : Int32) rfl ?_
    refine Ok.iload cx at_326 rfl 328 rfl ?_
    refine Ok.callStatic cx [(.long r313), (.ref b), (.int t15), (.int (16 : Int32)), (.int r37)] [] rfl (own_w hw 30 rfl) (own_w hw 31 rfl) (own_w hw 10 rfl) (own_w hw 32 rfl) at_328 (by decide) pd_2 rfl rfl  (rm_3 W.l Z a0 hw r313 b t15 (16 : Int32) r37 m A 16 vs h30_ n0 Z0 A_b P_b hm hA hD19 ha rfl (by decide) x37 x313) (by decide) 0 rfl (by decide) (by decide) (by decide) 331 rfl fun v328 h328_ q328 => ?_
    obtain ⟨rfl, r328, rfl, x328⟩ := q328
    show Ok _ _ _ _ _ _ _ _ _ [(.long r328)]
    refine Ok.lstore cx at_331 [.val (.long p0), .second, .val (.int p1), .val (.int p2), .val (.long t9), .second, .val (.int t15), .val (.ref b), .val (.int r30), .val (.int r37), .val (.long r328), .second] rfl 333 rfl ?_
    refine Ok.lload cx at_333 rfl 335 rfl ?_
    refine Ok.aload cx at_335 rfl 337 rfl ?_
    refine Ok.iload cx at_337 rfl 339 rfl ?_
    refine Ok.bipush cx at_339 341 rfl (17 : Int32) rfl ?_
    refine Ok.iload cx at_341 rfl 343 rfl ?_
    refine Ok.callStatic cx [(.long r328), (.ref b), (.int t15), (.int (17 : Int32)), (.int r37)] [] rfl (own_w hw 30 rfl) (own_w hw 31 rfl) (own_w hw 10 rfl) (own_w hw 32 rfl) at_343 (by decide) pd_2 rfl rfl  (rm_3 W.l Z a0 hw r328 b t15 (17 : Int32) r37 m A 17 vs h30_ n0 Z0 A_b P_b hm hA hD19 ha rfl (by decide) x37 x328) (by decide) 0 rfl (by decide) (by decide) (by decide) 346 rfl fun v343 h343_ q343 => ?_
    obtain ⟨rfl, r343, rfl, x343⟩ := q343
    show Ok _ _ _ _ _ _ _ _ _ [(.long r343)]
    refine Ok.lstore cx at_346 [.val (.long p0), .second, .val (.int p1), .val (.int p2), .val (.long t9), .second, .val (.int t15), .val (.ref b), .val (.int r30), .val (.int r37), .val (.long r343), .second] rfl 348 rfl ?_
    refine Ok.lload cx at_348 rfl 350 rfl ?_
    refine Ok.aload cx at_350 rfl 352 rfl ?_
    refine Ok.iload cx at_352 rfl 354 rfl ?_
    refine Ok.bipush cx at_354 356 rfl (18 : Int32) rfl ?_
    refine Ok.iload cx at_356 rfl 358 rfl ?_
    refine Ok.callStatic cx [(.long r343), (.ref b), (.int t15), (.int (18 : Int32)), (.int r37)] [] rfl (own_w hw 30 rfl) (own_w hw 31 rfl) (own_w hw 10 rfl) (own_w hw 32 rfl) at_358 (by decide) pd_2 rfl rfl  (rm_3 W.l Z a0 hw r343 b t15 (18 : Int32) r37 m A 18 vs h30_ n0 Z0 A_b P_b hm hA hD19 ha rfl (by decide) x37 x343) (by decide) 0 rfl (by decide) (by decide) (by decide) 361 rfl fun v358 h358_ q358 => ?_
    obtain ⟨rfl, r358, rfl, x358⟩ := q358
    show Ok _ _ _ _ _ _ _ _ _ [(.long r358)]
    refine Ok.lstore cx at_361 [.val (.long p0), .second, .val (.int p1), .val (.int p2), .val (.long t9), .second, .val (.int t15), .val (.ref b), .val (.int r30), .val (.int r37), .val (.long r358), .second] rfl 363 rfl ?_
    refine Ok.lload cx at_363 rfl 365 rfl ?_
    refine Ok.lload cx at_365 rfl 367 rfl ?_
    refine Ok.lcmp_ne cx at_367 at_368 375 371 (by decide) rfl (fun c368 => by exfalso; rw [show own_dg m - (18 + 1) = 0 by omega, Nat.pow_zero, Nat.div_one] at x358; omega) (fun c368 => ?_)
    refine Ok.iconst cx at_371 372 rfl (1 : Int32) rfl ?_
    refine Ok.goto cx at_372 376 (by decide) ?_
    exact Ok.zreturn cx at_376 (by decide) (by decide) rfl
  · skip
    refine Ok.aload cx at_69 rfl 71 rfl ?_
    refine Ok.iload cx at_71 rfl 73 rfl ?_
    refine Ok.iconst cx at_73 74 rfl (1 : Int32) rfl ?_
    refine Ok.isub cx at_74 75 rfl fun t74 e74 => ?_
    have s74 := own_sub e74 (by omega) (by omega)
    refine Ok.baload cx at_75 A_b (A - 1) (by omega) (v := (.int (0 : Int32))) ((P_b.2 (A - 1) (by omega)).2 (by omega)) 76 rfl ?_
    refine Ok.if_eq cx at_76 81 79 (by decide) rfl (fun c76 => ?_) (fun c76 => by exfalso; omega)
    refine Ok.lconst cx at_81 82 rfl (0 : Int64) rfl ?_
    refine Ok.lstore cx at_82 [.val (.long p0), .second, .val (.int p1), .val (.int p2), .val (.long t9), .second, .val (.int t15), .val (.ref b), .val (.int r30), .val (.int r37), .val (.long (0 : Int64)), .second] rfl 84 rfl ?_
    refine Ok.lload cx at_84 rfl 86 rfl ?_
    refine Ok.aload cx at_86 rfl 88 rfl ?_
    refine Ok.iload cx at_88 rfl 90 rfl ?_
    refine Ok.iconst cx at_90 91 rfl (0 : Int32) rfl ?_
    refine Ok.iload cx at_91 rfl 93 rfl ?_
    refine Ok.callStatic cx [(.long (0 : Int64)), (.ref b), (.int t15), (.int (0 : Int32)), (.int r37)] [] rfl (own_w hw 30 rfl) (own_w hw 31 rfl) (own_w hw 10 rfl) (own_w hw 32 rfl) at_93 (by decide) pd_2 rfl rfl  (rm_3 W.l Z a0 hw (0 : Int64) b t15 (0 : Int32) r37 m A 0 vs h30_ n0 Z0 A_b P_b hm hA hD19 ha rfl (by decide) x37 (by rw [Nat.sub_zero, Nat.div_eq_of_lt (own_dg_lt m)]; rfl)) (by decide) 0 rfl (by decide) (by decide) (by decide) 96 rfl fun v93 h93_ q93 => ?_
    obtain ⟨rfl, r93, rfl, x93⟩ := q93
    show Ok _ _ _ _ _ _ _ _ _ [(.long r93)]
    refine Ok.lstore cx at_96 [.val (.long p0), .second, .val (.int p1), .val (.int p2), .val (.long t9), .second, .val (.int t15), .val (.ref b), .val (.int r30), .val (.int r37), .val (.long r93), .second] rfl 98 rfl ?_
    refine Ok.lload cx at_98 rfl 100 rfl ?_
    refine Ok.aload cx at_100 rfl 102 rfl ?_
    refine Ok.iload cx at_102 rfl 104 rfl ?_
    refine Ok.iconst cx at_104 105 rfl (1 : Int32) rfl ?_
    refine Ok.iload cx at_105 rfl 107 rfl ?_
    refine Ok.callStatic cx [(.long r93), (.ref b), (.int t15), (.int (1 : Int32)), (.int r37)] [] rfl (own_w hw 30 rfl) (own_w hw 31 rfl) (own_w hw 10 rfl) (own_w hw 32 rfl) at_107 (by decide) pd_2 rfl rfl  (rm_3 W.l Z a0 hw r93 b t15 (1 : Int32) r37 m A 1 vs h30_ n0 Z0 A_b P_b hm hA hD19 ha rfl (by decide) x37 x93) (by decide) 0 rfl (by decide) (by decide) (by decide) 110 rfl fun v107 h107_ q107 => ?_
    obtain ⟨rfl, r107, rfl, x107⟩ := q107
    show Ok _ _ _ _ _ _ _ _ _ [(.long r107)]
    refine Ok.lstore cx at_110 [.val (.long p0), .second, .val (.int p1), .val (.int p2), .val (.long t9), .second, .val (.int t15), .val (.ref b), .val (.int r30), .val (.int r37), .val (.long r107), .second] rfl 112 rfl ?_
    refine Ok.lload cx at_112 rfl 114 rfl ?_
    refine Ok.aload cx at_114 rfl 116 rfl ?_
    refine Ok.iload cx at_116 rfl 118 rfl ?_
    refine Ok.iconst cx at_118 119 rfl (2 : Int32) rfl ?_
    refine Ok.iload cx at_119 rfl 121 rfl ?_
    refine Ok.callStatic cx [(.long r107), (.ref b), (.int t15), (.int (2 : Int32)), (.int r37)] [] rfl (own_w hw 30 rfl) (own_w hw 31 rfl) (own_w hw 10 rfl) (own_w hw 32 rfl) at_121 (by decide) pd_2 rfl rfl  (rm_3 W.l Z a0 hw r107 b t15 (2 : Int32) r37 m A 2 vs h30_ n0 Z0 A_b P_b hm hA hD19 ha rfl (by decide) x37 x107) (by decide) 0 rfl (by decide) (by decide) (by decide) 124 rfl fun v121 h121_ q121 => ?_
    obtain ⟨rfl, r121, rfl, x121⟩ := q121
    show Ok _ _ _ _ _ _ _ _ _ [(.long r121)]
    refine Ok.lstore cx at_124 [.val (.long p0), .second, .val (.int p1), .val (.int p2), .val (.long t9), .second, .val (.int t15), .val (.ref b), .val (.int r30), .val (.int r37), .val (.long r121), .second] rfl 126 rfl ?_
    refine Ok.lload cx at_126 rfl 128 rfl ?_
    refine Ok.aload cx at_128 rfl 130 rfl ?_
    refine Ok.iload cx at_130 rfl 132 rfl ?_
    refine Ok.iconst cx at_132 133 rfl (3 : Int32) rfl ?_
    refine Ok.iload cx at_133 rfl 135 rfl ?_
    refine Ok.callStatic cx [(.long r121), (.ref b), (.int t15), (.int (3 : Int32)), (.int r37)] [] rfl (own_w hw 30 rfl) (own_w hw 31 rfl) (own_w hw 10 rfl) (own_w hw 32 rfl) at_135 (by decide) pd_2 rfl rfl  (rm_3 W.l Z a0 hw r121 b t15 (3 : Int32) r37 m A 3 vs h30_ n0 Z0 A_b P_b hm hA hD19 ha rfl (by decide) x37 x121) (by decide) 0 rfl (by decide) (by decide) (by decide) 138 rfl fun v135 h135_ q135 => ?_
    obtain ⟨rfl, r135, rfl, x135⟩ := q135
    show Ok _ _ _ _ _ _ _ _ _ [(.long r135)]
    refine Ok.lstore cx at_138 [.val (.long p0), .second, .val (.int p1), .val (.int p2), .val (.long t9), .second, .val (.int t15), .val (.ref b), .val (.int r30), .val (.int r37), .val (.long r135), .second] rfl 140 rfl ?_
    refine Ok.lload cx at_140 rfl 142 rfl ?_
    refine Ok.aload cx at_142 rfl 144 rfl ?_
    refine Ok.iload cx at_144 rfl 146 rfl ?_
    refine Ok.iconst cx at_146 147 rfl (4 : Int32) rfl ?_
    refine Ok.iload cx at_147 rfl 149 rfl ?_
    refine Ok.callStatic cx [(.long r135), (.ref b), (.int t15), (.int (4 : Int32)), (.int r37)] [] rfl (own_w hw 30 rfl) (own_w hw 31 rfl) (own_w hw 10 rfl) (own_w hw 32 rfl) at_149 (by decide) pd_2 rfl rfl  (rm_3 W.l Z a0 hw r135 b t15 (4 : Int32) r37 m A 4 vs h30_ n0 Z0 A_b P_b hm hA hD19 ha rfl (by decide) x37 x135) (by decide) 0 rfl (by decide) (by decide) (by decide) 152 rfl fun v149 h149_ q149 => ?_
    obtain ⟨rfl, r149, rfl, x149⟩ := q149
    show Ok _ _ _ _ _ _ _ _ _ [(.long r149)]
    refine Ok.lstore cx at_152 [.val (.long p0), .second, .val (.int p1), .val (.int p2), .val (.long t9), .second, .val (.int t15), .val (.ref b), .val (.int r30), .val (.int r37), .val (.long r149), .second] rfl 154 rfl ?_
    refine Ok.lload cx at_154 rfl 156 rfl ?_
    refine Ok.aload cx at_156 rfl 158 rfl ?_
    refine Ok.iload cx at_158 rfl 160 rfl ?_
    refine Ok.iconst cx at_160 161 rfl (5 : Int32) rfl ?_
    refine Ok.iload cx at_161 rfl 163 rfl ?_
    refine Ok.callStatic cx [(.long r149), (.ref b), (.int t15), (.int (5 : Int32)), (.int r37)] [] rfl (own_w hw 30 rfl) (own_w hw 31 rfl) (own_w hw 10 rfl) (own_w hw 32 rfl) at_163 (by decide) pd_2 rfl rfl  (rm_3 W.l Z a0 hw r149 b t15 (5 : Int32) r37 m A 5 vs h30_ n0 Z0 A_b P_b hm hA hD19 ha rfl (by decide) x37 x149) (by decide) 0 rfl (by decide) (by decide) (by decide) 166 rfl fun v163 h163_ q163 => ?_
    obtain ⟨rfl, r163, rfl, x163⟩ := q163
    show Ok _ _ _ _ _ _ _ _ _ [(.long r163)]
    refine Ok.lstore cx at_166 [.val (.long p0), .second, .val (.int p1), .val (.int p2), .val (.long t9), .second, .val (.int t15), .val (.ref b), .val (.int r30), .val (.int r37), .val (.long r163), .second] rfl 168 rfl ?_
    refine Ok.lload cx at_168 rfl 170 rfl ?_
    refine Ok.aload cx at_170 rfl 172 rfl ?_
    refine Ok.iload cx at_172 rfl 174 rfl ?_
    refine Ok.bipush cx at_174 176 rfl (6 : Int32) rfl ?_
    refine Ok.iload cx at_176 rfl 178 rfl ?_
    refine Ok.callStatic cx [(.long r163), (.ref b), (.int t15), (.int (6 : Int32)), (.int r37)] [] rfl (own_w hw 30 rfl) (own_w hw 31 rfl) (own_w hw 10 rfl) (own_w hw 32 rfl) at_178 (by decide) pd_2 rfl rfl  (rm_3 W.l Z a0 hw r163 b t15 (6 : Int32) r37 m A 6 vs h30_ n0 Z0 A_b P_b hm hA hD19 ha rfl (by decide) x37 x163) (by decide) 0 rfl (by decide) (by decide) (by decide) 181 rfl fun v178 h178_ q178 => ?_
    obtain ⟨rfl, r178, rfl, x178⟩ := q178
    show Ok _ _ _ _ _ _ _ _ _ [(.long r178)]
    refine Ok.lstore cx at_181 [.val (.long p0), .second, .val (.int p1), .val (.int p2), .val (.long t9), .second, .val (.int t15), .val (.ref b), .val (.int r30), .val (.int r37), .val (.long r178), .second] rfl 183 rfl ?_
    refine Ok.lload cx at_183 rfl 185 rfl ?_
    refine Ok.aload cx at_185 rfl 187 rfl ?_
    refine Ok.iload cx at_187 rfl 189 rfl ?_
    refine Ok.bipush cx at_189 191 rfl (7 : Int32) rfl ?_
    refine Ok.iload cx at_191 rfl 193 rfl ?_
    refine Ok.callStatic cx [(.long r178), (.ref b), (.int t15), (.int (7 : Int32)), (.int r37)] [] rfl (own_w hw 30 rfl) (own_w hw 31 rfl) (own_w hw 10 rfl) (own_w hw 32 rfl) at_193 (by decide) pd_2 rfl rfl  (rm_3 W.l Z a0 hw r178 b t15 (7 : Int32) r37 m A 7 vs h30_ n0 Z0 A_b P_b hm hA hD19 ha rfl (by decide) x37 x178) (by decide) 0 rfl (by decide) (by decide) (by decide) 196 rfl fun v193 h193_ q193 => ?_
    obtain ⟨rfl, r193, rfl, x193⟩ := q193
    show Ok _ _ _ _ _ _ _ _ _ [(.long r193)]
    refine Ok.lstore cx at_196 [.val (.long p0), .second, .val (.int p1), .val (.int p2), .val (.long t9), .second, .val (.int t15), .val (.ref b), .val (.int r30), .val (.int r37), .val (.long r193), .second] rfl 198 rfl ?_
    refine Ok.lload cx at_198 rfl 200 rfl ?_
    refine Ok.aload cx at_200 rfl 202 rfl ?_
    refine Ok.iload cx at_202 rfl 204 rfl ?_
    refine Ok.bipush cx at_204 206 rfl (8 : Int32) rfl ?_
    refine Ok.iload cx at_206 rfl 208 rfl ?_
    refine Ok.callStatic cx [(.long r193), (.ref b), (.int t15), (.int (8 : Int32)), (.int r37)] [] rfl (own_w hw 30 rfl) (own_w hw 31 rfl) (own_w hw 10 rfl) (own_w hw 32 rfl) at_208 (by decide) pd_2 rfl rfl  (rm_3 W.l Z a0 hw r193 b t15 (8 : Int32) r37 m A 8 vs h30_ n0 Z0 A_b P_b hm hA hD19 ha rfl (by decide) x37 x193) (by decide) 0 rfl (by decide) (by decide) (by decide) 211 rfl fun v208 h208_ q208 => ?_
    obtain ⟨rfl, r208, rfl, x208⟩ := q208
    show Ok _ _ _ _ _ _ _ _ _ [(.long r208)]
    refine Ok.lstore cx at_211 [.val (.long p0), .second, .val (.int p1), .val (.int p2), .val (.long t9), .second, .val (.int t15), .val (.ref b), .val (.int r30), .val (.int r37), .val (.long r208), .second] rfl 213 rfl ?_
    refine Ok.lload cx at_213 rfl 215 rfl ?_
    refine Ok.aload cx at_215 rfl 217 rfl ?_
    refine Ok.iload cx at_217 rfl 219 rfl ?_
    refine Ok.bipush cx at_219 221 rfl (9 : Int32) rfl ?_
    refine Ok.iload cx at_221 rfl 223 rfl ?_
    refine Ok.callStatic cx [(.long r208), (.ref b), (.int t15), (.int (9 : Int32)), (.int r37)] [] rfl (own_w hw 30 rfl) (own_w hw 31 rfl) (own_w hw 10 rfl) (own_w hw 32 rfl) at_223 (by decide) pd_2 rfl rfl  (rm_3 W.l Z a0 hw r208 b t15 (9 : Int32) r37 m A 9 vs h30_ n0 Z0 A_b P_b hm hA hD19 ha rfl (by decide) x37 x208) (by decide) 0 rfl (by decide) (by decide) (by decide) 226 rfl fun v223 h223_ q223 => ?_
    obtain ⟨rfl, r223, rfl, x223⟩ := q223
    show Ok _ _ _ _ _ _ _ _ _ [(.long r223)]
    refine Ok.lstore cx at_226 [.val (.long p0), .second, .val (.int p1), .val (.int p2), .val (.long t9), .second, .val (.int t15), .val (.ref b), .val (.int r30), .val (.int r37), .val (.long r223), .second] rfl 228 rfl ?_
    refine Ok.lload cx at_228 rfl 230 rfl ?_
    refine Ok.aload cx at_230 rfl 232 rfl ?_
    refine Ok.iload cx at_232 rfl 234 rfl ?_
    refine Ok.bipush cx at_234 236 rfl (10 : Int32) rfl ?_
    refine Ok.iload cx at_236 rfl 238 rfl ?_
    refine Ok.callStatic cx [(.long r223), (.ref b), (.int t15), (.int (10 : Int32)), (.int r37)] [] rfl (own_w hw 30 rfl) (own_w hw 31 rfl) (own_w hw 10 rfl) (own_w hw 32 rfl) at_238 (by decide) pd_2 rfl rfl  (rm_3 W.l Z a0 hw r223 b t15 (10 : Int32) r37 m A 10 vs h30_ n0 Z0 A_b P_b hm hA hD19 ha rfl (by decide) x37 x223) (by decide) 0 rfl (by decide) (by decide) (by decide) 241 rfl fun v238 h238_ q238 => ?_
    obtain ⟨rfl, r238, rfl, x238⟩ := q238
    show Ok _ _ _ _ _ _ _ _ _ [(.long r238)]
    refine Ok.lstore cx at_241 [.val (.long p0), .second, .val (.int p1), .val (.int p2), .val (.long t9), .second, .val (.int t15), .val (.ref b), .val (.int r30), .val (.int r37), .val (.long r238), .second] rfl 243 rfl ?_
    refine Ok.lload cx at_243 rfl 245 rfl ?_
    refine Ok.aload cx at_245 rfl 247 rfl ?_
    refine Ok.iload cx at_247 rfl 249 rfl ?_
    refine Ok.bipush cx at_249 251 rfl (11 : Int32) rfl ?_
    refine Ok.iload cx at_251 rfl 253 rfl ?_
    refine Ok.callStatic cx [(.long r238), (.ref b), (.int t15), (.int (11 : Int32)), (.int r37)] [] rfl (own_w hw 30 rfl) (own_w hw 31 rfl) (own_w hw 10 rfl) (own_w hw 32 rfl) at_253 (by decide) pd_2 rfl rfl  (rm_3 W.l Z a0 hw r238 b t15 (11 : Int32) r37 m A 11 vs h30_ n0 Z0 A_b P_b hm hA hD19 ha rfl (by decide) x37 x238) (by decide) 0 rfl (by decide) (by decide) (by decide) 256 rfl fun v253 h253_ q253 => ?_
    obtain ⟨rfl, r253, rfl, x253⟩ := q253
    show Ok _ _ _ _ _ _ _ _ _ [(.long r253)]
    refine Ok.lstore cx at_256 [.val (.long p0), .second, .val (.int p1), .val (.int p2), .val (.long t9), .second, .val (.int t15), .val (.ref b), .val (.int r30), .val (.int r37), .val (.long r253), .second] rfl 258 rfl ?_
    refine Ok.lload cx at_258 rfl 260 rfl ?_
    refine Ok.aload cx at_260 rfl 262 rfl ?_
    refine Ok.iload cx at_262 rfl 264 rfl ?_
    refine Ok.bipush cx at_264 266 rfl (12 : Int32) rfl ?_
    refine Ok.iload cx at_266 rfl 268 rfl ?_
    refine Ok.callStatic cx [(.long r253), (.ref b), (.int t15), (.int (12 : Int32)), (.int r37)] [] rfl (own_w hw 30 rfl) (own_w hw 31 rfl) (own_w hw 10 rfl) (own_w hw 32 rfl) at_268 (by decide) pd_2 rfl rfl  (rm_3 W.l Z a0 hw r253 b t15 (12 : Int32) r37 m A 12 vs h30_ n0 Z0 A_b P_b hm hA hD19 ha rfl (by decide) x37 x253) (by decide) 0 rfl (by decide) (by decide) (by decide) 271 rfl fun v268 h268_ q268 => ?_
    obtain ⟨rfl, r268, rfl, x268⟩ := q268
    show Ok _ _ _ _ _ _ _ _ _ [(.long r268)]
    refine Ok.lstore cx at_271 [.val (.long p0), .second, .val (.int p1), .val (.int p2), .val (.long t9), .second, .val (.int t15), .val (.ref b), .val (.int r30), .val (.int r37), .val (.long r268), .second] rfl 273 rfl ?_
    refine Ok.lload cx at_273 rfl 275 rfl ?_
    refine Ok.aload cx at_275 rfl 277 rfl ?_
    refine Ok.iload cx at_277 rfl 279 rfl ?_
    refine Ok.bipush cx at_279 281 rfl (13 : Int32) rfl ?_
    refine Ok.iload cx at_281 rfl 283 rfl ?_
    refine Ok.callStatic cx [(.long r268), (.ref b), (.int t15), (.int (13 : Int32)), (.int r37)] [] rfl (own_w hw 30 rfl) (own_w hw 31 rfl) (own_w hw 10 rfl) (own_w hw 32 rfl) at_283 (by decide) pd_2 rfl rfl  (rm_3 W.l Z a0 hw r268 b t15 (13 : Int32) r37 m A 13 vs h30_ n0 Z0 A_b P_b hm hA hD19 ha rfl (by decide) x37 x268) (by decide) 0 rfl (by decide) (by decide) (by decide) 286 rfl fun v283 h283_ q283 => ?_
    obtain ⟨rfl, r283, rfl, x283⟩ := q283
    show Ok _ _ _ _ _ _ _ _ _ [(.long r283)]
    refine Ok.lstore cx at_286 [.val (.long p0), .second, .val (.int p1), .val (.int p2), .val (.long t9), .second, .val (.int t15), .val (.ref b), .val (.int r30), .val (.int r37), .val (.long r283), .second] rfl 288 rfl ?_
    refine Ok.lload cx at_288 rfl 290 rfl ?_
    refine Ok.aload cx at_290 rfl 292 rfl ?_
    refine Ok.iload cx at_292 rfl 294 rfl ?_
    refine Ok.bipush cx at_294 296 rfl (14 : Int32) rfl ?_
    refine Ok.iload cx at_296 rfl 298 rfl ?_
    refine Ok.callStatic cx [(.long r283), (.ref b), (.int t15), (.int (14 : Int32)), (.int r37)] [] rfl (own_w hw 30 rfl) (own_w hw 31 rfl) (own_w hw 10 rfl) (own_w hw 32 rfl) at_298 (by decide) pd_2 rfl rfl  (rm_3 W.l Z a0 hw r283 b t15 (14 : Int32) r37 m A 14 vs h30_ n0 Z0 A_b P_b hm hA hD19 ha rfl (by decide) x37 x283) (by decide) 0 rfl (by decide) (by decide) (by decide) 301 rfl fun v298 h298_ q298 => ?_
    obtain ⟨rfl, r298, rfl, x298⟩ := q298
    show Ok _ _ _ _ _ _ _ _ _ [(.long r298)]
    refine Ok.lstore cx at_301 [.val (.long p0), .second, .val (.int p1), .val (.int p2), .val (.long t9), .second, .val (.int t15), .val (.ref b), .val (.int r30), .val (.int r37), .val (.long r298), .second] rfl 303 rfl ?_
    refine Ok.lload cx at_303 rfl 305 rfl ?_
    refine Ok.aload cx at_305 rfl 307 rfl ?_
    refine Ok.iload cx at_307 rfl 309 rfl ?_
    refine Ok.bipush cx at_309 311 rfl (15 : Int32) rfl ?_
    refine Ok.iload cx at_311 rfl 313 rfl ?_
    refine Ok.callStatic cx [(.long r298), (.ref b), (.int t15), (.int (15 : Int32)), (.int r37)] [] rfl (own_w hw 30 rfl) (own_w hw 31 rfl) (own_w hw 10 rfl) (own_w hw 32 rfl) at_313 (by decide) pd_2 rfl rfl  (rm_3 W.l Z a0 hw r298 b t15 (15 : Int32) r37 m A 15 vs h30_ n0 Z0 A_b P_b hm hA hD19 ha rfl (by decide) x37 x298) (by decide) 0 rfl (by decide) (by decide) (by decide) 316 rfl fun v313 h313_ q313 => ?_
    obtain ⟨rfl, r313, rfl, x313⟩ := q313
    show Ok _ _ _ _ _ _ _ _ _ [(.long r313)]
    refine Ok.lstore cx at_316 [.val (.long p0), .second, .val (.int p1), .val (.int p2), .val (.long t9), .second, .val (.int t15), .val (.ref b), .val (.int r30), .val (.int r37), .val (.long r313), .second] rfl 318 rfl ?_
    refine Ok.lload cx at_318 rfl 320 rfl ?_
    refine Ok.aload cx at_320 rfl 322 rfl ?_
    refine Ok.iload cx at_322 rfl 324 rfl ?_
    refine Ok.bipush cx at_324 326 rfl (16 : Int32) rfl ?_
    refine Ok.iload cx at_326 rfl 328 rfl ?_
    refine Ok.callStatic cx [(.long r313), (.ref b), (.int t15), (.int (16 : Int32)), (.int r37)] [] rfl (own_w hw 30 rfl) (own_w hw 31 rfl) (own_w hw 10 rfl) (own_w hw 32 rfl) at_328 (by decide) pd_2 rfl rfl  (rm_3 W.l Z a0 hw r313 b t15 (16 : Int32) r37 m A 16 vs h30_ n0 Z0 A_b P_b hm hA hD19 ha rfl (by decide) x37 x313) (by decide) 0 rfl (by decide) (by decide) (by decide) 331 rfl fun v328 h328_ q328 => ?_
    obtain ⟨rfl, r328, rfl, x328⟩ := q328
    show Ok _ _ _ _ _ _ _ _ _ [(.long r328)]
    refine Ok.lstore cx at_331 [.val (.long p0), .second, .val (.int p1), .val (.int p2), .val (.long t9), .second, .val (.int t15), .val (.ref b), .val (.int r30), .val (.int r37), .val (.long r328), .second] rfl 333 rfl ?_
    refine Ok.lload cx at_333 rfl 335 rfl ?_
    refine Ok.aload cx at_335 rfl 337 rfl ?_
    refine Ok.iload cx at_337 rfl 339 rfl ?_
    refine Ok.bipush cx at_339 341 rfl (17 : Int32) rfl ?_
    refine Ok.iload cx at_341 rfl 343 rfl ?_
    refine Ok.callStatic cx [(.long r328), (.ref b), (.int t15), (.int (17 : Int32)), (.int r37)] [] rfl (own_w hw 30 rfl) (own_w hw 31 rfl) (own_w hw 10 rfl) (own_w hw 32 rfl) at_343 (by decide) pd_2 rfl rfl  (rm_3 W.l Z a0 hw r328 b t15 (17 : Int32) r37 m A 17 vs h30_ n0 Z0 A_b P_b hm hA hD19 ha rfl (by decide) x37 x328) (by decide) 0 rfl (by decide) (by decide) (by decide) 346 rfl fun v343 h343_ q343 => ?_
    obtain ⟨rfl, r343, rfl, x343⟩ := q343
    show Ok _ _ _ _ _ _ _ _ _ [(.long r343)]
    refine Ok.lstore cx at_346 [.val (.long p0), .second, .val (.int p1), .val (.int p2), .val (.long t9), .second, .val (.int t15), .val (.ref b), .val (.int r30), .val (.int r37), .val (.long r343), .second] rfl 348 rfl ?_
    refine Ok.lload cx at_348 rfl 350 rfl ?_
    refine Ok.aload cx at_350 rfl 352 rfl ?_
    refine Ok.iload cx at_352 rfl 354 rfl ?_
    refine Ok.bipush cx at_354 356 rfl (18 : Int32) rfl ?_
    refine Ok.iload cx at_356 rfl 358 rfl ?_
    refine Ok.callStatic cx [(.long r343), (.ref b), (.int t15), (.int (18 : Int32)), (.int r37)] [] rfl (own_w hw 30 rfl) (own_w hw 31 rfl) (own_w hw 10 rfl) (own_w hw 32 rfl) at_358 (by decide) pd_2 rfl rfl  (rm_3 W.l Z a0 hw r343 b t15 (18 : Int32) r37 m A 18 vs h30_ n0 Z0 A_b P_b hm hA hD19 ha rfl (by decide) x37 x343) (by decide) 0 rfl (by decide) (by decide) (by decide) 361 rfl fun v358 h358_ q358 => ?_
    obtain ⟨rfl, r358, rfl, x358⟩ := q358
    show Ok _ _ _ _ _ _ _ _ _ [(.long r358)]
    refine Ok.lstore cx at_361 [.val (.long p0), .second, .val (.int p1), .val (.int p2), .val (.long t9), .second, .val (.int t15), .val (.ref b), .val (.int r30), .val (.int r37), .val (.long r358), .second] rfl 363 rfl ?_
    refine Ok.lload cx at_363 rfl 365 rfl ?_
    refine Ok.lload cx at_365 rfl 367 rfl ?_
    refine Ok.lcmp_ne cx at_367 at_368 375 371 (by decide) rfl (fun c368 => by exfalso; rw [show own_dg m - (18 + 1) = 0 by omega, Nat.pow_zero, Nat.div_one] at x358; omega) (fun c368 => ?_)
    refine Ok.iconst cx at_371 372 rfl (1 : Int32) rfl ?_
    refine Ok.goto cx at_372 376 (by decide) ?_
    exact Ok.zreturn cx at_376 (by decide) (by decide) rfl
set_option maxRecDepth 65536 in
set_option maxHeartbeats 40000000 in
theorem comes_1 {Post : Tables → Env → Array Value → State → Outcome → State → Prop} (hpost : ∀ tb e args s v u, (limb_1_1.after args s (.returned v) u = true ∧ limb_1_2.after args s (.returned v) u = true ∧ True) → FrameEnd s (.returned v) u (Jvm.fieldLocs frame_1_writes args s ++ Jvm.arrayLocs frame_1_arrays args s ++ Jvm.staticLocs frame_1_statics s) 16 128 → Post tb e args s (.returned v) u) :
    ArmFor flags0 classFile x code maxLocals ret World_1 tables_1 room_1 Calls_1 rest_1 Pre_1 Post := by
  intro l hfl _ _ p e ha hc hk s m args below hf hA hF happ hP
  obtain ⟨hcalls, hrest, hpre⟩ := hP
  obtain ⟨-, -, -, hnamed, -, -, -, hat⟩ := (Spec.applies_iff hf).mp happ
  obtain ⟨hg, hn⟩ := and_e (Cond.before_iff.mp (show (Jvm.Cond.and given_1 narrow_1).before args s = true from hpre))
  obtain ⟨hcount, g0⟩ := and_e hg
  obtain ⟨b0, g1⟩ := and_e g0
  obtain ⟨b1, g2⟩ := and_e g1
  have b2 := g2
  obtain ⟨w0, w1, w2, rfl⟩ : ∃ w0 w1 w2 : Value, args = #[w0, w1, w2] := by
    have hs : args.size = 3 := by simpa [Cond.value, given_1] using hcount
    obtain ⟨L⟩ := args
    match L, hs with
    | [w0, w1, w2], _ => exact ⟨w0, w1, w2, rfl⟩
  have hw := fun d (hd : d ∈ tables_1) => atoms_spec (ws := Jvm.Cond.code x code maxLocals ret :: tables_1) hat d (List.mem_cons_of_mem _ hd)
  obtain ⟨i0, q0⟩ := isL_v b0
  obtain rfl : w0 = (.long i0) := Option.some.inj q0
  obtain ⟨i1, q1⟩ := is_v b1
  obtain rfl : w1 = (.int i1) := Option.some.inj q1
  obtain ⟨i2, q2⟩ := is_v b2
  obtain rfl : w2 = (.int i2) := Option.some.inj q2
  obtain ⟨n, o, h1, h2, h3, _, L, rfl, ⟨rfl, N⟩, hq⟩ := rm_0 l s _ hw i0 i1 i2 s.heap s.heap.size (Nat.le_refl _) p e ha hc hk s m _ below hf ((Spec.applies_iff_loose hf).mp happ).1 ⟨rfl, State.Warmed39.refl s, rfl⟩ trivial
  refine ⟨n, _, h1, h2, h3, hpost _ _ _ _ _ _ ⟨Cond.after_iff.mpr rfl, Cond.after_iff.mpr (eq_i res_at (Term.int_eval (1)) rfl), trivial⟩ ⟨hq.1, hq.2.1, (hq.2.2.sift fun y hy => Or.inr (N y hy)).mono (by decide) (by decide)⟩⟩
theorem main_1_1 : Claimed_1_1 := comes_1 fun _ _ _ _ _ _ h hF => ⟨h.1, hF⟩
theorem main_1_2 : Claimed_1_2 := comes_1 fun _ _ _ _ _ _ h hF => ⟨h.2.1, hF⟩
end Jvm.Pilot.@@N@@
namespace Jvm.Pilot.@@N@@
open Jvm Jvm.ClassFile Sem Op Lib Jvm.Free Jvm.Stand Jvm.Pilot.@@N@@.Jvm.D
/-! MADE BY PROGRAM (witnessworld.py) out of the Statement's table words and the real class files: 9 classes; the members and pool entries that the words name. The judged class is class 1, her method 1. -/
namespace start1
open Jvm.ClassFile
def u (s : String) : CpInfo := .utf8 (stringToUtf16 s)
/-- a pool by its gaps: so many unusable entries, then the entry; so many at the end -/
def gap : Nat → List CpInfo → List CpInfo
  | 0, r => r
  | n + 1, r => .unusable :: gap n r
def poolList (es : List (Nat × CpInfo)) (last : Nat) : List CpInfo := es.foldr (fun e r => gap e.1 (e.2 :: r)) (gap last [])
def pool (es : List (Nat × CpInfo)) (last : Nat) : Array CpInfo := ⟨poolList es last⟩
def fileOf (pool : Array CpInfo) (this : Nat) (attrs : Array Attribute := #[]) (ms : Array MethodInfo := #[]) (fl : Nat := 33) (sup : Nat := 0) (ifs : Array Nat := #[]) (fds : Array FieldInfo := #[]) : ClassFile where
  minorVersion := 0
  majorVersion := 65
  constantPool := pool
  accessFlags := fl
  thisClass := this
  superClass := sup
  interfaces := ifs
  fields := fds
  methods := ms
  attributes := attrs
def plain (name : String) (sup : Option ClassId) : Class where
  name := name
  kind := .ordinary
  loader := none
  accessFlags := 33
  super := sup
  interfaces := #[]
  cf := none
  fields := #[]
  methods := #[]
  instanceTypes := #[]
  staticTypes := #[]
  resolved := #[]
  callSites := []
  init := .initialized
  statics := none
  mirror := none

def pool0 : Array CpInfo := pool [(5, u "<init>"), (0, u "()V"), (1, .class_ 10), (1, u "java/lang/Object")] 113

def k0m0 : Method := { name := "<init>", desc := "()V", sig := { parameters := [], returnType := none }, accessFlags := 1, code := none }
/-- java/lang/Object -/
def k0 : Class := { plain "java/lang/Object" none with
  accessFlags := 33
  interfaces := #[]
  cf := some (fileOf pool0 8 #[] #[{ accessFlags := 1, nameIndex := 5, descriptorIndex := 6, attributes := #[] }] 33 0 #[] #[])
  fields := #[]
  methods := #[k0m0]
  instanceTypes := #[]
  staticTypes := #[]
  resolved := Array.replicate 124 none
  statics := none }

def pool1 : Array CpInfo := pool [(2, .class_ 4), (1, u "java/lang/Object"), (0, u "<init>"), (0, u "()V"), (2, .long 9223372036854775807), (1, .methodref 12 13), (0, .class_ 14), (0, .nameAndType 15 16), (0, u "com/example/cairnlog/cairnlog/server/Link"), (0, u "putDecimal"), (0, u "(J[BI)I"), (0, .methodref 18 19), (0, .class_ 20), (0, .nameAndType 21 22), (0, u "com/example/cairnlog/cairnlog/server/LinkPutDecimalPinLaw"), (0, u "digits"), (0, u "(J)I"), (0, .methodref 18 24), (0, .nameAndType 25 26), (0, u "acc"), (0, u "(J[BIII)J"), (0, .long 18446744073709551615), (1, .long 10), (1, .long 100), (1, .long 1000), (1, .long 10000), (1, .long 100000), (1, .long 1000000), (1, .long 10000000), (1, .long 100000000), (1, .long 1000000000), (1, .long 10000000000), (1, .long 100000000000), (1, .long 1000000000000), (1, .long 10000000000000), (1, .long 100000000000000), (1, .long 1000000000000000), (1, .long 10000000000000000), (1, .long 100000000000000000), (1, .long 1000000000000000000), (3, u "law"), (0, u "(JII)Z")] 5

def k1m0 : Method := { name := "<init>", desc := "()V", sig := { parameters := [], returnType := none }, accessFlags := 2, code := none }
def k1c1 : Code := { maxStack := 6, maxLocals := 12, code := code, exceptionTable := #[], attributes := #[] }
def k1m1 : Method := { name := "law", desc := "(JII)Z", sig := { parameters := [.long, .int, .int], returnType := some .boolean }, accessFlags := 9, code := some k1c1 }
def k1c2 : Code := { maxStack := 4, maxLocals := 7, code := method_3_code, exceptionTable := #[], attributes := #[] }
def k1m2 : Method := { name := "acc", desc := "(J[BIII)J", sig := { parameters := [.long, (.array .byte), .int, .int, .int], returnType := some .long }, accessFlags := 10, code := some k1c2 }
def k1c3 : Code := { maxStack := 4, maxLocals := 3, code := method_4_code, exceptionTable := #[], attributes := #[] }
def k1m3 : Method := { name := "digits", desc := "(J)I", sig := { parameters := [.long], returnType := some .int }, accessFlags := 10, code := some k1c3 }
/-- com/example/cairnlog/cairnlog/server/LinkPutDecimalPinLaw -/
def k1 : Class := { plain "com/example/cairnlog/cairnlog/server/LinkPutDecimalPinLaw" (some 0) with
  accessFlags := 49
  interfaces := #[]
  cf := some (fileOf pool1 18 #[] #[{ accessFlags := 2, nameIndex := 5, descriptorIndex := 6, attributes := #[] }, { accessFlags := 9, nameIndex := 67, descriptorIndex := 68, attributes := #[] }, { accessFlags := 10, nameIndex := 25, descriptorIndex := 26, attributes := #[] }, { accessFlags := 10, nameIndex := 21, descriptorIndex := 22, attributes := #[] }] 49 2 #[] #[])
  fields := #[]
  methods := #[k1m0, k1m1, k1m2, k1m3]
  instanceTypes := #[]
  staticTypes := #[]
  resolved := Array.replicate 74 none
  statics := none }

def pool2 : Array CpInfo := pool [(2, .class_ 4), (1, u "java/lang/Object"), (6, .class_ 13), (1, u "com/example/cairnlog/cairnlog/server/Link"), (0, u "closed"), (0, u "Ljava/util/concurrent/atomic/AtomicBoolean;"), (2, u "channel"), (0, u "Ljava/nio/channels/SocketChannel;"), (2, u "listener"), (0, u "Lcom/example/cairnlog/cairnlog/server/Listener;"), (2, u "in"), (0, u "Ljava/nio/ByteBuffer;"), (34, u "closing"), (0, u "Z"), (11, u "SPARE"), (0, u "Ljava/lang/ThreadLocal;"), (11, u "out"), (99, u "putDecimal"), (0, u "(J[BI)I"), (0, .long 10), (1, .long 48), (12, u "BUFFER"), (0, u "I"), (2, u "PIECE")] 33

def k2c0 : Code := { maxStack := 8, maxLocals := 8, code := prog_111_method_23_code, exceptionTable := #[], attributes := #[] }
def k2m0 : Method := { name := "putDecimal", desc := "(J[BI)I", sig := { parameters := [.long, (.array .byte), .int], returnType := some .int }, accessFlags := 8, code := some k2c0 }
/-- com/example/cairnlog/cairnlog/server/Link -/
def k2 : Class := { plain "com/example/cairnlog/cairnlog/server/Link" (some 0) with
  accessFlags := 1056
  interfaces := #[]
  cf := some (fileOf pool2 11 #[] #[{ accessFlags := 8, nameIndex := 188, descriptorIndex := 189, attributes := #[] }] 1056 2 #[] #[{ accessFlags := 26, nameIndex := 205, descriptorIndex := 206, attributes := #[] }, { accessFlags := 26, nameIndex := 209, descriptorIndex := 206, attributes := #[] }, { accessFlags := 26, nameIndex := 75, descriptorIndex := 76, attributes := #[] }, { accessFlags := 18, nameIndex := 18, descriptorIndex := 19, attributes := #[] }, { accessFlags := 18, nameIndex := 22, descriptorIndex := 23, attributes := #[] }, { accessFlags := 0, nameIndex := 26, descriptorIndex := 27, attributes := #[] }, { accessFlags := 2, nameIndex := 88, descriptorIndex := 27, attributes := #[] }, { accessFlags := 2, nameIndex := 62, descriptorIndex := 63, attributes := #[] }, { accessFlags := 18, nameIndex := 14, descriptorIndex := 15, attributes := #[] }])
  fields := #[{ name := "BUFFER", type := .int, accessFlags := 26, slot := 0, constantValue := 0 }, { name := "PIECE", type := .int, accessFlags := 26, slot := 1, constantValue := 0 }, { name := "SPARE", type := (.object "java/lang/ThreadLocal"), accessFlags := 26, slot := 2, constantValue := 0 }, { name := "channel", type := (.object "java/nio/channels/SocketChannel"), accessFlags := 18, slot := 0, constantValue := 0 }, { name := "listener", type := (.object "com/example/cairnlog/cairnlog/server/Listener"), accessFlags := 18, slot := 1, constantValue := 0 }, { name := "in", type := (.object "java/nio/ByteBuffer"), accessFlags := 0, slot := 2, constantValue := 0 }, { name := "out", type := (.object "java/nio/ByteBuffer"), accessFlags := 2, slot := 3, constantValue := 0 }, { name := "closing", type := .boolean, accessFlags := 2, slot := 4, constantValue := 0 }, { name := "closed", type := (.object "java/util/concurrent/atomic/AtomicBoolean"), accessFlags := 18, slot := 5, constantValue := 0 }]
  methods := #[k2m0]
  instanceTypes := #[(.object "java/nio/channels/SocketChannel"), (.object "com/example/cairnlog/cairnlog/server/Listener"), (.object "java/nio/ByteBuffer"), (.object "java/nio/ByteBuffer"), .boolean, (.object "java/util/concurrent/atomic/AtomicBoolean")]
  staticTypes := #[.int, .int, (.object "java/lang/ThreadLocal")]
  resolved := Array.replicate 243 none
  statics := none }

def pool3 : Array CpInfo := pool [(1, u "java/lang/Cloneable"), (0, .class_ 1), (0, u "java/lang/Object"), (0, .class_ 3)] 3

/-- java/lang/Cloneable -/
def k3 : Class := { plain "java/lang/Cloneable" (some 0) with
  accessFlags := 1537
  interfaces := #[]
  cf := some (fileOf pool3 2 #[] #[] 1537 4 #[] #[])
  fields := #[]
  methods := #[]
  instanceTypes := #[]
  staticTypes := #[]
  resolved := Array.replicate 8 none
  statics := none }

def pool4 : Array CpInfo := pool [(1, u "java/io/Serializable"), (0, .class_ 1), (0, u "java/lang/Object"), (0, .class_ 3)] 3

/-- java/io/Serializable -/
def k4 : Class := { plain "java/io/Serializable" (some 0) with
  accessFlags := 1537
  interfaces := #[]
  cf := some (fileOf pool4 2 #[] #[] 1537 4 #[] #[])
  fields := #[]
  methods := #[]
  instanceTypes := #[]
  staticTypes := #[]
  resolved := Array.replicate 8 none
  statics := none }

/-- the primitive byte -/
def k5 : Class := { plain "byte" none with kind := .primitive 'B', accessFlags := 0x411 }
/-- [B -/
def k6 : Class := { plain "[B" (some 0) with kind := .array 5 .byte, interfaces := #[3, 4], accessFlags := 1041 }

/-- the primitive int -/
def k7 : Class := { plain "int" none with kind := .primitive 'I', accessFlags := 0x411 }
/-- [I -/
def k8 : Class := { plain "[I" (some 0) with kind := .array 7 .int, interfaces := #[3, 4], accessFlags := 1041 }

def heap : Heap := #[]
def classes : Array Class := #[k0, k1, k2, k3, k4, k5, k6, k7, k8]
def interned : List (Array UInt16 × Addr) := []
def slotsUsed : Nat := 0
def theMethod : MethodId := ⟨1, 1⟩
def args0 : Array Value := #[.long 1234, .int 3, .int 2]
def aboutOver (below : List Frame) : State where
  vm := { classes := classes, interned := interned.toArray }
  heap := heap
  slotsUsed := slotsUsed
  threads := #[{ frames := .invoking theMethod args0 :: below }]
def below0 : List Frame := [.native { method := ⟨0, 0⟩, args := #[] }]
def about1 : State := aboutOver below0
def p0 : Program := .bare "" "" ""
def e0 : Env := launch0.env 0 0 0
theorem w_frames : about1.frames = Frame.invoking theMethod args0 :: below0 := rfl
set_option maxRecDepth 65536 in
theorem w_args : argsFit about1.vm theMethod args0 = true := by decide +kernel
set_option maxRecDepth 65536 in
theorem w_heap : heapFits about1 = true := by decide +kernel
set_option maxRecDepth 65536 in
theorem w_runnable : about1.curStatus? = some .runnable := by decide +kernel
set_option maxRecDepth 65536 in
theorem w_alone : about1.alone = true := by decide +kernel
set_option maxRecDepth 65536 in
theorem w_named : about1.methodNamed? x = some theMethod := by decide +kernel
set_option maxRecDepth 65536 in
theorem w_hears : about1.hears theMethod below0 = true := by decide +kernel
set_option maxRecDepth 65536 in
theorem w_ripe : about1.ripe theMethod args0 below0 = true := by decide +kernel
theorem w_running : about1.status = .running := rfl
set_option maxRecDepth 65536 in
theorem w_room : about1.hasRoom e0.platform room_1 = true :=
  launch0.hasRoom_least _ room_1 (by decide +kernel) (by decide +kernel) (by decide +kernel) (by decide +kernel) (by decide +kernel) (by decide +kernel)
theorem allAtoms_all (ts : List Jvm.Cond) (a : Array Jvm.Value) (st : Jvm.State) : (allAtoms ts).before a st = ts.all (fun c => c.before a st) := by
  induction ts with
  | nil => rfl
  | cons c t ih =>
    show (Jvm.Cond.and c (allAtoms t)).before a st = _
    rw [Jvm.Cond.before_and, ih, List.all_cons]
def words1 : List Jvm.Cond := Jvm.Cond.code x code maxLocals ret :: tables_1
/-- a 'code' word, met by the world's own term for the bytes: nothing is compared byte by byte -/
theorem code_word {y : MethodName} {bytes : ByteArray} {mx : Nat} {rt : Option FieldType} {a : Array Value} {s : State} {m : MethodId} {meth : Method} {c : Code} (h1 : s.methodNamed? y = some m) (h2 : s.vm.method? m = some meth) (h3 : meth.code = some c) (h4 : c.code = bytes)
    (h5 : (c.maxLocals == mx && c.exceptionTable.isEmpty && decide (c.maxStack ≤ mostOperands) && decide (meth.sig.returnType = rt) && !meth.locks && decide (parseMethodDescriptor y.desc = some meth.sig)) = true) : (Jvm.Cond.code y bytes mx rt).before a s = true := by
  simp only [Bool.and_eq_true, beq_iff_eq, Bool.not_eq_true', decide_eq_true_eq] at h5
  obtain ⟨⟨⟨⟨⟨g1, g2⟩, g3⟩, g4⟩, g5⟩, g6⟩ := h5
  simp [Cond.before, Cond.holds, Cond.value, h1, h2, h3, h4, g1, g2, g3, g4, g5, g6]
def isCode : Jvm.Cond → Bool
  | .code _ _ _ _ => true
  | _ => false
theorem all_split {L : List Jvm.Cond} {P : Jvm.Cond → Bool} (h1 : L.all (fun c => isCode c || P c) = true) (h2 : ∀ c ∈ L.filter isCode, P c = true) : L.all P = true := by
  refine List.all_eq_true.mpr fun c hc => ?_
  have h := List.all_eq_true.mp h1 c hc
  rcases Bool.eq_false_or_eq_true (isCode c) with hi | hi
  · exact h2 c (List.mem_filter.mpr ⟨hc, hi⟩)
  · simpa [hi] using h
set_option maxRecDepth 65536 in
theorem w_c0 : (Jvm.Cond.code x code maxLocals ret).before args0 about1 = true := code_word (m := ⟨1, 1⟩) (meth := k1m1) (c := k1c1) (by decide +kernel) rfl rfl rfl (by decide +kernel)
set_option maxRecDepth 65536 in
theorem w_c1 : (Jvm.Cond.code ({ cls := "com/example/cairnlog/cairnlog/server/Link", name := "putDecimal", desc := "(J[BI)I" } : Jvm.MethodName) prog_111_method_23_code (8 : Nat) (Option.some Jvm.ClassFile.FieldType.int)).before args0 about1 = true := code_word (m := ⟨2, 0⟩) (meth := k2m0) (c := k2c0) (by decide +kernel) rfl rfl rfl (by decide +kernel)
set_option maxRecDepth 65536 in
theorem w_c2 : (Jvm.Cond.code ({ cls := "com/example/cairnlog/cairnlog/server/LinkPutDecimalPinLaw", name := "digits", desc := "(J)I" } : Jvm.MethodName) method_4_code (3 : Nat) (Option.some Jvm.ClassFile.FieldType.int)).before args0 about1 = true := code_word (m := ⟨1, 3⟩) (meth := k1m3) (c := k1c3) (by decide +kernel) rfl rfl rfl (by decide +kernel)
set_option maxRecDepth 65536 in
theorem w_c3 : (Jvm.Cond.code ({ cls := "com/example/cairnlog/cairnlog/server/LinkPutDecimalPinLaw", name := "acc", desc := "(J[BIII)J" } : Jvm.MethodName) method_3_code (7 : Nat) (Option.some Jvm.ClassFile.FieldType.long)).before args0 about1 = true := code_word (m := ⟨1, 2⟩) (meth := k1m2) (c := k1c2) (by decide +kernel) rfl rfl rfl (by decide +kernel)
def codes1 : List Jvm.Cond := [Jvm.Cond.code x code maxLocals ret, Jvm.Cond.code ({ cls := "com/example/cairnlog/cairnlog/server/Link", name := "putDecimal", desc := "(J[BI)I" } : Jvm.MethodName) prog_111_method_23_code (8 : Nat) (Option.some Jvm.ClassFile.FieldType.int), Jvm.Cond.code ({ cls := "com/example/cairnlog/cairnlog/server/LinkPutDecimalPinLaw", name := "digits", desc := "(J)I" } : Jvm.MethodName) method_4_code (3 : Nat) (Option.some Jvm.ClassFile.FieldType.int), Jvm.Cond.code ({ cls := "com/example/cairnlog/cairnlog/server/LinkPutDecimalPinLaw", name := "acc", desc := "(J[BIII)J" } : Jvm.MethodName) method_3_code (7 : Nat) (Option.some Jvm.ClassFile.FieldType.long)]
set_option maxRecDepth 65536 in
theorem codes_eq : words1.filter isCode = codes1 := rfl
theorem w_codes : ∀ c ∈ words1.filter isCode, c.before args0 about1 = true := by
  rw [codes_eq]
  intro c hc
  simp only [codes1, List.mem_cons, List.not_mem_nil, or_false] at hc
  rcases hc with rfl | rfl | rfl | rfl
  · exact w_c0
  · exact w_c1
  · exact w_c2
  · exact w_c3
set_option maxRecDepth 65536 in
theorem w_t1 : (words1.take 24).all (fun c => isCode c || c.before args0 about1) = true := by decide +kernel
set_option maxRecDepth 65536 in
theorem w_t2 : (words1.drop 24).all (fun c => isCode c || c.before args0 about1) = true := by decide +kernel
theorem w_tables : (allAtoms (Jvm.Cond.code x code maxLocals ret :: tables_1)).before args0 about1 = true := by
  rw [allAtoms_all]
  show words1.all (fun c => c.before args0 about1) = true
  refine all_split ?_ w_codes
  rw [← List.take_append_drop 24 words1, List.all_append, w_t1, w_t2]
  rfl
set_option maxRecDepth 65536 in
theorem w_case : (Jvm.Cond.and given_1 narrow_1).before args0 about1 = true := by decide +kernel
theorem w_applies : (headSpec (Jvm.Cond.code x code maxLocals ret :: tables_1) room_1).applies x e0.platform about1 = true :=
  (Spec.applies_iff w_frames).mpr ⟨w_running, w_runnable, w_alone, w_named, w_hears, w_ripe, w_room, w_tables⟩
theorem atStart : AtStart classFile x code maxLocals ret World_1 tables_1 room_1 Calls_1 rest_1 Pre_1 launch0 p0 e0 about1 theMethod args0 below0 :=
  ⟨lists_1, trivial, launch0.admits_env _ _ _, launch0.least_env, fairChoices_fair.cas, fairChoices_fair.clock, w_frames, w_args, w_heap, w_applies, trivial, trivial, w_case⟩
end start1
theorem witness_1 : WitnessClaimed_1 := ⟨start1.p0, start1.e0, start1.about1, start1.theMethod, start1.args0, start1.below0, start1.atStart⟩
end Jvm.Pilot.@@N@@
