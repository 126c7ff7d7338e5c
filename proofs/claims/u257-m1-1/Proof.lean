import JvmDerived
import JvmDerived.Pilot.@@N@@Statement
import JvmDerived.Pilot.@@N@@Code
set_option linter.unusedVariables false
set_option linter.unusedSimpArgs false
namespace Jvm.Pilot.@@N@@
open Jvm Jvm.ClassFile Sem Op Lib Jvm.Free Jvm.Stand Jvm.LawKit Jvm.RoadKit Bundle Jvm.Pilot.@@N@@.Jvm.D
/-! own framework: `Ok` = 'from this frame over this heap the body comes to its end with Q'; one lemma an instruction -/
abbrev Wd : Type := Program × Launch × Env × State × MethodId × Array Value × List Frame × Method × Code
abbrev Wd.p (W : Wd) : Program := W.1
abbrev Wd.l (W : Wd) : Launch := W.2.1
abbrev Wd.e (W : Wd) : Env := W.2.2.1
abbrev Wd.s (W : Wd) : State := W.2.2.2.1
abbrev Wd.m (W : Wd) : MethodId := W.2.2.2.2.1
abbrev Wd.args (W : Wd) : Array Value := W.2.2.2.2.2.1
abbrev Wd.below (W : Wd) : List Frame := W.2.2.2.2.2.2.1
abbrev Wd.meth (W : Wd) : Method := W.2.2.2.2.2.2.2.1
abbrev Wd.c (W : Wd) : Code := W.2.2.2.2.2.2.2.2
def Ok (W : Wd) (R : Room) (n0 : Nat) (Q : Option Value → Heap → Prop) (h : Heap) (k n pc : Nat) (Ls : List Slot) (st : List Value) : Prop :=
  ∀ (T : State) (locs : List Loc), Stand W.p W.l W.e R W.s W.m W.args W.below W.meth W.c T locs k n → T.heap = h → Fr n0 locs →
    ∃ s₂ o, Steps W.p.tables W.e W.below (T.setTop (mkF W.m pc Ls.toArray st)) s₂ ∧ s₂.status = .running ∧ Ended s₂ W.below o ∧ ∃ v L, o = .returned v ∧ (Q v s₂.heap ∧ Fr n0 L) ∧ FrameEnd W.s o s₂ L R.cells R.slots
def Cx (W : Wd) (Z : State) (own nm : String) (bc : ByteArray) (maxL : Nat) (rt : Option FieldType) : Prop :=
  W.p.tables.exec = Jvm.exec ∧ Z.Warmed39 W.s.vm ∧ W.c.code = bc ∧ W.c.maxLocals = maxL ∧ W.s.vm.findClass own = some W.m.cls ∧ W.meth.sig.returnType = rt ∧ W.meth.locks = false ∧ W.meth.name = nm
section Own
variable {W : Wd} {R : Room} {n0 : Nat} {Q : Option Value → Heap → Prop} {h : Heap} {k n pc : Nat} {Ls : List Slot} {st : List Value} {Z : State} {own nm : String} {bc : ByteArray} {maxL : Nat} {rt : Option FieldType} {a0 : Array Value}
theorem Ok.back {pc' : Nat} {Ls' : List Slot} {st' : List Value} (g : Ok W R n0 Q h k n pc' Ls' st')
    (hs : ∀ (T : State) (locs : List Loc), Stand W.p W.l W.e R W.s W.m W.args W.below W.meth W.c T locs k n → T.heap = h → ∀ t, Steps W.p.tables W.e W.below (T.setTop (mkF W.m pc' Ls'.toArray st')) t → Steps W.p.tables W.e W.below (T.setTop (mkF W.m pc Ls.toArray st)) t) :
    Ok W R n0 Q h k n pc Ls st := fun T locs X e N => by
  obtain ⟨s₂, o, S, r⟩ := g T locs X e N
  exact ⟨s₂, o, hs T locs X e _ S, r⟩
/-- the same, the state (not its heap) moved -/
theorem Ok.move {pc' : Nat} {Ls' : List Slot} {st' : List Value} (g : Ok W R n0 Q h k n pc' Ls' st')
    (hs : ∀ (T : State) (locs : List Loc), Stand W.p W.l W.e R W.s W.m W.args W.below W.meth W.c T locs k n → T.heap = h → ∃ T', Stand W.p W.l W.e R W.s W.m W.args W.below W.meth W.c T' locs k n ∧ T'.heap = h ∧ ∀ t, Steps W.p.tables W.e W.below (T'.setTop (mkF W.m pc' Ls'.toArray st')) t → Steps W.p.tables W.e W.below (T.setTop (mkF W.m pc Ls.toArray st)) t) :
    Ok W R n0 Q h k n pc Ls st := fun T locs X e N => by
  obtain ⟨T', X', e', st⟩ := hs T locs X e
  obtain ⟨s₂, o, S, r⟩ := g T' locs X' e' N
  exact ⟨s₂, o, st _ S, r⟩
theorem own_get {Ls : List Slot} {i : Nat} {v : Slot} (hl : Ls[i]? = some v) : Ls.toArray[i]? = some v := by simpa using hl
theorem own_store {Ls Ls' : List Slot} {i : Nat} {v : Value} {o : Slot} (hold : Ls[i]? = some o) (ho : One o) (hv : v.category = 1) (hL : Ls.set i (.val v) = Ls') : storeLocals Ls.toArray i v = some Ls'.toArray := by
  rw [XS.store1 (own_get hold) ho hv, ← hL]; simp

theorem Ok.iload (C : Cx W Z own nm bc maxL rt) {i : Nat} {v : Int32} (hd : decode bc pc = .ok (.iload i, 2)) (hl : Ls[i]? = some (.val (.int v))) (q : Nat) (hq : pc + 2 = q) (g : Ok W R n0 Q h k n q Ls (.int v :: st)) : Ok W R n0 Q h k n pc Ls st := by
  subst hq
  exact g.back fun T locs X e t s => XS.iload X.here C.1 rfl (hb C.2.2.1 hd) (own_get hl) s
theorem Ok.iloadN (C : Cx W Z own nm bc maxL rt) {i : Fin 4} {v : Int32} (hd : decode bc pc = .ok (.iload_n i, 1)) (hl : Ls[i.val]? = some (.val (.int v))) (q : Nat) (hq : pc + 1 = q) (g : Ok W R n0 Q h k n q Ls (.int v :: st)) : Ok W R n0 Q h k n pc Ls st := by
  subst hq
  exact g.back fun T locs X e t s => XS.iloadN X.here C.1 rfl (hb C.2.2.1 hd) (own_get hl) s
theorem Ok.lload (C : Cx W Z own nm bc maxL rt) {i : Nat} {v : Int64} (hd : decode bc pc = .ok (.lload i, 2)) (hl : Ls[i]? = some (.val (.long v))) (q : Nat) (hq : pc + 2 = q) (g : Ok W R n0 Q h k n q Ls (.long v :: st)) : Ok W R n0 Q h k n pc Ls st := by
  subst hq
  exact g.back fun T locs X e t s => XS.lload X.here C.1 rfl (hb C.2.2.1 hd) (own_get hl) s
theorem Ok.lloadN (C : Cx W Z own nm bc maxL rt) {i : Fin 4} {v : Int64} (hd : decode bc pc = .ok (.lload_n i, 1)) (hl : Ls[i.val]? = some (.val (.long v))) (q : Nat) (hq : pc + 1 = q) (g : Ok W R n0 Q h k n q Ls (.long v :: st)) : Ok W R n0 Q h k n pc Ls st := by
  subst hq
  exact g.back fun T locs X e t s => XS.lloadN X.here C.1 rfl (hb C.2.2.1 hd) (own_get hl) s
theorem Ok.aload (C : Cx W Z own nm bc maxL rt) {i : Nat} {v : Addr} (hd : decode bc pc = .ok (.aload i, 2)) (hl : Ls[i]? = some (.val (.ref v))) (q : Nat) (hq : pc + 2 = q) (g : Ok W R n0 Q h k n q Ls (.ref v :: st)) : Ok W R n0 Q h k n pc Ls st := by
  subst hq
  exact g.back fun T locs X e t s => XS.aload X.here C.1 rfl (hb C.2.2.1 hd) (own_get hl) rfl s
theorem Ok.aloadN (C : Cx W Z own nm bc maxL rt) {i : Fin 4} {v : Addr} (hd : decode bc pc = .ok (.aload_n i, 1)) (hl : Ls[i.val]? = some (.val (.ref v))) (q : Nat) (hq : pc + 1 = q) (g : Ok W R n0 Q h k n q Ls (.ref v :: st)) : Ok W R n0 Q h k n pc Ls st := by
  subst hq
  exact g.back fun T locs X e t s => XS.aloadN X.here C.1 rfl (hb C.2.2.1 hd) (own_get hl) rfl s
theorem Ok.istore (C : Cx W Z own nm bc maxL rt) {i : Nat} {x : Int32} {o : Slot} (hd : decode bc pc = .ok (.istore i, 2)) (hold : Ls[i]? = some o) (ho : One o) (Ls' : List Slot) (hL : Ls.set i (.val (.int x)) = Ls') (q : Nat) (hq : pc + 2 = q) (g : Ok W R n0 Q h k n q Ls' st) : Ok W R n0 Q h k n pc Ls (.int x :: st) := by
  subst hq
  exact g.back fun T locs X e t s => XS.istore X.here C.1 rfl (hb C.2.2.1 hd) rfl (own_store hold ho rfl hL) s
theorem Ok.istoreN (C : Cx W Z own nm bc maxL rt) {i : Fin 4} {x : Int32} {o : Slot} (hd : decode bc pc = .ok (.istore_n i, 1)) (hold : Ls[i.val]? = some o) (ho : One o) (Ls' : List Slot) (hL : Ls.set i.val (.val (.int x)) = Ls') (q : Nat) (hq : pc + 1 = q) (g : Ok W R n0 Q h k n q Ls' st) : Ok W R n0 Q h k n pc Ls (.int x :: st) := by
  subst hq
  exact g.back fun T locs X e t s => XS.istoreN X.here C.1 rfl (hb C.2.2.1 hd) rfl (own_store hold ho rfl hL) s
theorem Ok.astore (C : Cx W Z own nm bc maxL rt) {i : Nat} {x : Addr} {o : Slot} (hd : decode bc pc = .ok (.astore i, 2)) (hold : Ls[i]? = some o) (ho : One o) (Ls' : List Slot) (hL : Ls.set i (.val (.ref x)) = Ls') (q : Nat) (hq : pc + 2 = q) (g : Ok W R n0 Q h k n q Ls' st) : Ok W R n0 Q h k n pc Ls (.ref x :: st) := by
  subst hq
  exact g.back fun T locs X e t s => XS.astore X.here C.1 rfl (hb C.2.2.1 hd) rfl rfl (own_store hold ho rfl hL) s
theorem Ok.astoreN (C : Cx W Z own nm bc maxL rt) {i : Fin 4} {x : Addr} {o : Slot} (hd : decode bc pc = .ok (.astore_n i, 1)) (hold : Ls[i.val]? = some o) (ho : One o) (Ls' : List Slot) (hL : Ls.set i.val (.val (.ref x)) = Ls') (q : Nat) (hq : pc + 1 = q) (g : Ok W R n0 Q h k n q Ls' st) : Ok W R n0 Q h k n pc Ls (.ref x :: st) := by
  subst hq
  exact g.back fun T locs X e t s => XS.astoreN X.here C.1 rfl (hb C.2.2.1 hd) rfl rfl (own_store hold ho rfl hL) s
theorem Ok.lstore (C : Cx W Z own nm bc maxL rt) {i : Nat} {x : Int64} (hd : decode bc pc = .ok (.lstore i, 2)) (Ls' : List Slot) (hL : storeLocals Ls.toArray i (.long x) = some Ls'.toArray) (q : Nat) (hq : pc + 2 = q) (g : Ok W R n0 Q h k n q Ls' st) : Ok W R n0 Q h k n pc Ls (.long x :: st) := by
  subst hq
  exact g.back fun T locs X e t s => XS.lstore X.here C.1 rfl (hb C.2.2.1 hd) rfl hL s
theorem Ok.lstoreN (C : Cx W Z own nm bc maxL rt) {i : Fin 4} {x : Int64} (hd : decode bc pc = .ok (.lstore_n i, 1)) (Ls' : List Slot) (hL : storeLocals Ls.toArray i.val (.long x) = some Ls'.toArray) (q : Nat) (hq : pc + 1 = q) (g : Ok W R n0 Q h k n q Ls' st) : Ok W R n0 Q h k n pc Ls (.long x :: st) := by
  subst hq
  exact g.back fun T locs X e t s => XS.lstoreN X.here C.1 rfl (hb C.2.2.1 hd) rfl hL s
theorem Ok.iconst (C : Cx W Z own nm bc maxL rt) {i : Int} (hd : decode bc pc = .ok (.iconst i, 1)) (q : Nat) (hq : pc + 1 = q) (z : Int32) (hz : Int32.ofInt i = z) (g : Ok W R n0 Q h k n q Ls (.int z :: st)) : Ok W R n0 Q h k n pc Ls st := by
  subst hq hz
  exact g.back fun T locs X e t s => XS.iconst X.here C.1 rfl (hb C.2.2.1 hd) s
theorem Ok.bipush (C : Cx W Z own nm bc maxL rt) {i : Int} (hd : decode bc pc = .ok (.bipush i, 2)) (q : Nat) (hq : pc + 2 = q) (z : Int32) (hz : (Int8.ofInt i).toInt32 = z) (g : Ok W R n0 Q h k n q Ls (.int z :: st)) : Ok W R n0 Q h k n pc Ls st := by
  subst hq hz
  exact g.back fun T locs X e t s => XS.bipush X.here C.1 rfl (hb C.2.2.1 hd) s
theorem Ok.sipush (C : Cx W Z own nm bc maxL rt) {i : Int} (hd : decode bc pc = .ok (.sipush i, 3)) (q : Nat) (hq : pc + 3 = q) (z : Int32) (hz : (Int16.ofInt i).toInt32 = z) (g : Ok W R n0 Q h k n q Ls (.int z :: st)) : Ok W R n0 Q h k n pc Ls st := by
  subst hq hz
  exact g.back fun T locs X e t s => XS.sipush X.here C.1 rfl (hb C.2.2.1 hd) s
theorem Ok.lconst (C : Cx W Z own nm bc maxL rt) {i : Fin 2} (hd : decode bc pc = .ok (.lconst i, 1)) (q : Nat) (hq : pc + 1 = q) (z : Int64) (hz : Int64.ofNat i = z) (g : Ok W R n0 Q h k n q Ls (.long z :: st)) : Ok W R n0 Q h k n pc Ls st := by
  subst hq hz
  exact g.back fun T locs X e t s => XS.lconst X.here C.1 rfl (hb C.2.2.1 hd) s
theorem Ok.ldc (C : Cx W Z own nm bc maxL rt) {i : Nat} {v : Int32} (w : (Jvm.Cond.constant own i v).before a0 Z = true) (hd : decode bc pc = .ok (.ldc i, 2)) (q : Nat) (hq : pc + 2 = q) (g : Ok W R n0 Q h k n q Ls (.int v :: st)) : Ok W R n0 Q h k n pc Ls st := by
  subst hq
  exact g.back fun T locs X e t s => X.ldcInt C.1 C.2.2.2.2.1 (mvT C.2.1 w) (g := mkF W.m pc Ls.toArray st) rfl (hb C.2.2.1 hd) t s
theorem Ok.ldc2 (C : Cx W Z own nm bc maxL rt) {i : Nat} {v : Int64} (w : (Jvm.Cond.constantLong own i v).before a0 Z = true) (hd : decode bc pc = .ok (.ldc2_w i, 3)) (q : Nat) (hq : pc + 3 = q) (g : Ok W R n0 Q h k n q Ls (.long v :: st)) : Ok W R n0 Q h k n pc Ls st := by
  subst hq
  exact g.back fun T locs X e t s => X.ldc2Long C.1 C.2.2.2.2.1 (mvT C.2.1 w) (g := mkF W.m pc Ls.toArray st) rfl (hb C.2.2.1 hd) t s
theorem Ok.iadd (C : Cx W Z own nm bc maxL rt) {x : Int32} {y : Int32} (hd : decode bc pc = .ok (.iadd, 1)) (q : Nat) (hq : pc + 1 = q) (g : ∀ z, z = x + y → Ok W R n0 Q h k n q Ls (.int z :: st)) : Ok W R n0 Q h k n pc Ls (.int y :: .int x :: st) := by
  subst hq
  exact (g _ rfl).back fun T locs X e t s => XS.iadd X.here C.1 rfl (hb C.2.2.1 hd) rfl s
theorem Ok.isub (C : Cx W Z own nm bc maxL rt) {x : Int32} {y : Int32} (hd : decode bc pc = .ok (.isub, 1)) (q : Nat) (hq : pc + 1 = q) (g : ∀ z, z = x - y → Ok W R n0 Q h k n q Ls (.int z :: st)) : Ok W R n0 Q h k n pc Ls (.int y :: .int x :: st) := by
  subst hq
  exact (g _ rfl).back fun T locs X e t s => XS.isub X.here C.1 rfl (hb C.2.2.1 hd) rfl s
theorem Ok.imul (C : Cx W Z own nm bc maxL rt) {x : Int32} {y : Int32} (hd : decode bc pc = .ok (.imul, 1)) (q : Nat) (hq : pc + 1 = q) (g : ∀ z, z = x * y → Ok W R n0 Q h k n q Ls (.int z :: st)) : Ok W R n0 Q h k n pc Ls (.int y :: .int x :: st) := by
  subst hq
  exact (g _ rfl).back fun T locs X e t s => XS.imul X.here C.1 rfl (hb C.2.2.1 hd) rfl s
theorem Ok.iand (C : Cx W Z own nm bc maxL rt) {x : Int32} {y : Int32} (hd : decode bc pc = .ok (.iand, 1)) (q : Nat) (hq : pc + 1 = q) (g : ∀ z, z = x &&& y → Ok W R n0 Q h k n q Ls (.int z :: st)) : Ok W R n0 Q h k n pc Ls (.int y :: .int x :: st) := by
  subst hq
  exact (g _ rfl).back fun T locs X e t s => XS.iand X.here C.1 rfl (hb C.2.2.1 hd) rfl s
theorem Ok.ior (C : Cx W Z own nm bc maxL rt) {x : Int32} {y : Int32} (hd : decode bc pc = .ok (.ior, 1)) (q : Nat) (hq : pc + 1 = q) (g : ∀ z, z = x ||| y → Ok W R n0 Q h k n q Ls (.int z :: st)) : Ok W R n0 Q h k n pc Ls (.int y :: .int x :: st) := by
  subst hq
  exact (g _ rfl).back fun T locs X e t s => XS.ior X.here C.1 rfl (hb C.2.2.1 hd) rfl s
theorem Ok.ixor (C : Cx W Z own nm bc maxL rt) {x : Int32} {y : Int32} (hd : decode bc pc = .ok (.ixor, 1)) (q : Nat) (hq : pc + 1 = q) (g : ∀ z, z = x ^^^ y → Ok W R n0 Q h k n q Ls (.int z :: st)) : Ok W R n0 Q h k n pc Ls (.int y :: .int x :: st) := by
  subst hq
  exact (g _ rfl).back fun T locs X e t s => XS.ixor X.here C.1 rfl (hb C.2.2.1 hd) rfl s
theorem Ok.ishl (C : Cx W Z own nm bc maxL rt) {x : Int32} {y : Int32} (hd : decode bc pc = .ok (.ishl, 1)) (q : Nat) (hq : pc + 1 = q) (g : ∀ z, z = x <<< (y &&& 31) → Ok W R n0 Q h k n q Ls (.int z :: st)) : Ok W R n0 Q h k n pc Ls (.int y :: .int x :: st) := by
  subst hq
  exact (g _ rfl).back fun T locs X e t s => XS.ishl X.here C.1 rfl (hb C.2.2.1 hd) rfl s
theorem Ok.ishr (C : Cx W Z own nm bc maxL rt) {x : Int32} {y : Int32} (hd : decode bc pc = .ok (.ishr, 1)) (q : Nat) (hq : pc + 1 = q) (g : ∀ z, z = x >>> (y &&& 31) → Ok W R n0 Q h k n q Ls (.int z :: st)) : Ok W R n0 Q h k n pc Ls (.int y :: .int x :: st) := by
  subst hq
  exact (g _ rfl).back fun T locs X e t s => XS.ishr X.here C.1 rfl (hb C.2.2.1 hd) rfl s
theorem Ok.iushr (C : Cx W Z own nm bc maxL rt) {x : Int32} {y : Int32} (hd : decode bc pc = .ok (.iushr, 1)) (q : Nat) (hq : pc + 1 = q) (g : ∀ z, z = (x.toUInt32 >>> (y &&& 31).toUInt32).toInt32 → Ok W R n0 Q h k n q Ls (.int z :: st)) : Ok W R n0 Q h k n pc Ls (.int y :: .int x :: st) := by
  subst hq
  exact (g _ rfl).back fun T locs X e t s => XS.iushr X.here C.1 rfl (hb C.2.2.1 hd) rfl s
theorem Ok.ladd (C : Cx W Z own nm bc maxL rt) {x : Int64} {y : Int64} (hd : decode bc pc = .ok (.ladd, 1)) (q : Nat) (hq : pc + 1 = q) (g : ∀ z, z = x + y → Ok W R n0 Q h k n q Ls (.long z :: st)) : Ok W R n0 Q h k n pc Ls (.long y :: .long x :: st) := by
  subst hq
  exact (g _ rfl).back fun T locs X e t s => XS.ladd X.here C.1 rfl (hb C.2.2.1 hd) rfl s
theorem Ok.lsub (C : Cx W Z own nm bc maxL rt) {x : Int64} {y : Int64} (hd : decode bc pc = .ok (.lsub, 1)) (q : Nat) (hq : pc + 1 = q) (g : ∀ z, z = x - y → Ok W R n0 Q h k n q Ls (.long z :: st)) : Ok W R n0 Q h k n pc Ls (.long y :: .long x :: st) := by
  subst hq
  exact (g _ rfl).back fun T locs X e t s => XS.lsub X.here C.1 rfl (hb C.2.2.1 hd) rfl s
theorem Ok.lmul (C : Cx W Z own nm bc maxL rt) {x : Int64} {y : Int64} (hd : decode bc pc = .ok (.lmul, 1)) (q : Nat) (hq : pc + 1 = q) (g : ∀ z, z = x * y → Ok W R n0 Q h k n q Ls (.long z :: st)) : Ok W R n0 Q h k n pc Ls (.long y :: .long x :: st) := by
  subst hq
  exact (g _ rfl).back fun T locs X e t s => XS.lmul X.here C.1 rfl (hb C.2.2.1 hd) rfl s
theorem Ok.land (C : Cx W Z own nm bc maxL rt) {x : Int64} {y : Int64} (hd : decode bc pc = .ok (.land, 1)) (q : Nat) (hq : pc + 1 = q) (g : ∀ z, z = x &&& y → Ok W R n0 Q h k n q Ls (.long z :: st)) : Ok W R n0 Q h k n pc Ls (.long y :: .long x :: st) := by
  subst hq
  exact (g _ rfl).back fun T locs X e t s => XS.land X.here C.1 rfl (hb C.2.2.1 hd) rfl s
theorem Ok.lor (C : Cx W Z own nm bc maxL rt) {x : Int64} {y : Int64} (hd : decode bc pc = .ok (.lor, 1)) (q : Nat) (hq : pc + 1 = q) (g : ∀ z, z = x ||| y → Ok W R n0 Q h k n q Ls (.long z :: st)) : Ok W R n0 Q h k n pc Ls (.long y :: .long x :: st) := by
  subst hq
  exact (g _ rfl).back fun T locs X e t s => XS.lor X.here C.1 rfl (hb C.2.2.1 hd) rfl s
theorem Ok.lxor (C : Cx W Z own nm bc maxL rt) {x : Int64} {y : Int64} (hd : decode bc pc = .ok (.lxor, 1)) (q : Nat) (hq : pc + 1 = q) (g : ∀ z, z = x ^^^ y → Ok W R n0 Q h k n q Ls (.long z :: st)) : Ok W R n0 Q h k n pc Ls (.long y :: .long x :: st) := by
  subst hq
  exact (g _ rfl).back fun T locs X e t s => XS.lxor X.here C.1 rfl (hb C.2.2.1 hd) rfl s
theorem Ok.lshl (C : Cx W Z own nm bc maxL rt) {x : Int64} {y : Int32} (hd : decode bc pc = .ok (.lshl, 1)) (q : Nat) (hq : pc + 1 = q) (g : ∀ z, z = x <<< (y &&& 0x3f).toInt64 → Ok W R n0 Q h k n q Ls (.long z :: st)) : Ok W R n0 Q h k n pc Ls (.int y :: .long x :: st) := by
  subst hq
  exact (g _ rfl).back fun T locs X e t s => XS.lshl X.here C.1 rfl (hb C.2.2.1 hd) rfl s
theorem Ok.lushr (C : Cx W Z own nm bc maxL rt) {x : Int64} {y : Int32} (hd : decode bc pc = .ok (.lushr, 1)) (q : Nat) (hq : pc + 1 = q) (g : ∀ z, z = (x.toUInt64 >>> (y &&& 0x3f).toInt64.toUInt64).toInt64 → Ok W R n0 Q h k n q Ls (.long z :: st)) : Ok W R n0 Q h k n pc Ls (.int y :: .long x :: st) := by
  subst hq
  exact (g _ rfl).back fun T locs X e t s => XS.lushr X.here C.1 rfl (hb C.2.2.1 hd) rfl s
theorem Ok.idiv (C : Cx W Z own nm bc maxL rt) {x y : Int32} (hd : decode bc pc = .ok (.idiv, 1)) (hy : y ≠ 0) (q : Nat) (hq : pc + 1 = q) (g : ∀ z, z = x / y → Ok W R n0 Q h k n q Ls (.int z :: st)) : Ok W R n0 Q h k n pc Ls (.int y :: .int x :: st) := by
  subst hq
  exact (g _ rfl).back fun T locs X e t s => XS.idiv X.here C.1 rfl (hb C.2.2.1 hd) rfl hy s
theorem Ok.ldiv (C : Cx W Z own nm bc maxL rt) {x y : Int64} (hd : decode bc pc = .ok (.ldiv, 1)) (hy : y ≠ 0) (q : Nat) (hq : pc + 1 = q) (g : ∀ z, z = x / y → Ok W R n0 Q h k n q Ls (.long z :: st)) : Ok W R n0 Q h k n pc Ls (.long y :: .long x :: st) := by
  subst hq
  exact (g _ rfl).back fun T locs X e t s => XS.ldiv X.here C.1 rfl (hb C.2.2.1 hd) rfl hy s
theorem Ok.irem (C : Cx W Z own nm bc maxL rt) {x y : Int32} (hd : decode bc pc = .ok (.irem, 1)) (hy : y ≠ 0) (q : Nat) (hq : pc + 1 = q) (g : ∀ z, z = x % y → Ok W R n0 Q h k n q Ls (.int z :: st)) : Ok W R n0 Q h k n pc Ls (.int y :: .int x :: st) := by
  subst hq
  exact (g _ rfl).back fun T locs X e t s => iremM X C.1 rfl (hb C.2.2.1 hd) rfl hy s
theorem Ok.lrem (C : Cx W Z own nm bc maxL rt) {x y : Int64} (hd : decode bc pc = .ok (.lrem, 1)) (hy : y ≠ 0) (q : Nat) (hq : pc + 1 = q) (g : ∀ z, z = x % y → Ok W R n0 Q h k n q Ls (.long z :: st)) : Ok W R n0 Q h k n pc Ls (.long y :: .long x :: st) := by
  subst hq
  have g := g _ (lrem_mod x y)
  exact g.back fun T locs X e t s => XS.lrem X.here C.1 rfl (hb C.2.2.1 hd) rfl hy s
theorem Ok.i2l (C : Cx W Z own nm bc maxL rt) {x : Int32} (hd : decode bc pc = .ok (.i2l, 1)) (q : Nat) (hq : pc + 1 = q) (g : ∀ z, z = x.toInt64 → Ok W R n0 Q h k n q Ls (.long z :: st)) : Ok W R n0 Q h k n pc Ls (.int x :: st) := by
  subst hq
  exact (g _ rfl).back fun T locs X e t s => XS.i2l X.here C.1 rfl (hb C.2.2.1 hd) rfl s
theorem Ok.l2i (C : Cx W Z own nm bc maxL rt) {x : Int64} (hd : decode bc pc = .ok (.l2i, 1)) (q : Nat) (hq : pc + 1 = q) (g : ∀ z, z = x.toInt32 → Ok W R n0 Q h k n q Ls (.int z :: st)) : Ok W R n0 Q h k n pc Ls (.long x :: st) := by
  subst hq
  exact (g _ rfl).back fun T locs X e t s => XS.l2i X.here C.1 rfl (hb C.2.2.1 hd) rfl s
theorem Ok.i2b (C : Cx W Z own nm bc maxL rt) {x : Int32} (hd : decode bc pc = .ok (.i2b, 1)) (q : Nat) (hq : pc + 1 = q) (g : ∀ z, z = x.toInt8.toInt32 → Ok W R n0 Q h k n q Ls (.int z :: st)) : Ok W R n0 Q h k n pc Ls (.int x :: st) := by
  subst hq
  exact (g _ rfl).back fun T locs X e t s => XS.i2b X.here C.1 rfl (hb C.2.2.1 hd) rfl s
theorem Ok.ineg (C : Cx W Z own nm bc maxL rt) {x : Int32} (hd : decode bc pc = .ok (.ineg, 1)) (q : Nat) (hq : pc + 1 = q) (g : ∀ z, z = -x → Ok W R n0 Q h k n q Ls (.int z :: st)) : Ok W R n0 Q h k n pc Ls (.int x :: st) := by
  subst hq
  exact (g _ rfl).back fun T locs X e t s => XS.ineg X.here C.1 rfl (hb C.2.2.1 hd) rfl s
theorem Ok.lneg (C : Cx W Z own nm bc maxL rt) {x : Int64} (hd : decode bc pc = .ok (.lneg, 1)) (q : Nat) (hq : pc + 1 = q) (g : ∀ z, z = -x → Ok W R n0 Q h k n q Ls (.long z :: st)) : Ok W R n0 Q h k n pc Ls (.long x :: st) := by
  subst hq
  exact (g _ rfl).back fun T locs X e t s => XS.lneg X.here C.1 rfl (hb C.2.2.1 hd) rfl s
theorem Ok.iinc (C : Cx W Z own nm bc maxL rt) {i : Nat} {cst : Int} {x : Int32} (hd : decode bc pc = .ok (.iinc i cst, 3)) (hl : Ls[i]? = some (.val (.int x))) (z : Int32) (hz : Int32.ofInt cst = z) (Ls' : Int32 → List Slot) (hL : ∀ y, Ls.set i (.val (.int y)) = Ls' y) (q : Nat) (hq : pc + 3 = q) (g : ∀ y, y = x + z → Ok W R n0 Q h k n q (Ls' y) st) : Ok W R n0 Q h k n pc Ls st := by
  subst hq hz
  exact (g _ rfl).back fun T locs X e t s => XS.iinc X.here C.1 rfl (hb C.2.2.1 hd) (own_get hl) (own_store hl (One.val rfl) rfl (hL _)) s
theorem Ok.dup (C : Cx W Z own nm bc maxL rt) {x : Value} (hd : decode bc pc = .ok (.dup, 1)) (hc : x.category = 1) (q : Nat) (hq : pc + 1 = q) (g : Ok W R n0 Q h k n q Ls (x :: x :: st)) : Ok W R n0 Q h k n pc Ls (x :: st) := by
  subst hq
  exact g.back fun T locs X e t s => XS.dup X.here C.1 rfl (hb C.2.2.1 hd) rfl hc s
theorem Ok.pop (C : Cx W Z own nm bc maxL rt) {x : Value} (hd : decode bc pc = .ok (.pop, 1)) (hc : x.category = 1) (q : Nat) (hq : pc + 1 = q) (g : Ok W R n0 Q h k n q Ls st) : Ok W R n0 Q h k n pc Ls (x :: st) := by
  subst hq
  exact g.back fun T locs X e t s => XS.pop X.here C.1 rfl (hb C.2.2.1 hd) rfl hc s
theorem Ok.dupX1 (C : Cx W Z own nm bc maxL rt) {x y : Value} (hd : decode bc pc = .ok (.dup_x1, 1)) (hc : x.category = 1) (hc2 : y.category = 1) (q : Nat) (hq : pc + 1 = q) (g : Ok W R n0 Q h k n q Ls (x :: y :: x :: st)) : Ok W R n0 Q h k n pc Ls (x :: y :: st) := by
  subst hq
  exact g.back fun T locs X e t s => XS.dupX1 X.here C.1 rfl (hb C.2.2.1 hd) rfl hc hc2 s
theorem Ok.dup2 (C : Cx W Z own nm bc maxL rt) {x y : Value} (hd : decode bc pc = .ok (.dup2, 1)) (hc : x.category = 1) (hc2 : y.category = 1) (q : Nat) (hq : pc + 1 = q) (g : Ok W R n0 Q h k n q Ls (x :: y :: x :: y :: st)) : Ok W R n0 Q h k n pc Ls (x :: y :: st) := by
  subst hq
  exact g.back fun T locs X e t s => by
    have hd' := hb C.2.2.1 hd
    have hx := C.1
    show Steps _ _ _ (T.setTop { method := W.m, pc := pc, locals := Ls.toArray, stack := x :: y :: st, locked := none }) _
    jvm_step X.here [X.here.top, hx, hd', hc, hc2]
    exact s
theorem Ok.dupX2 (C : Cx W Z own nm bc maxL rt) {x y z : Value} (hd : decode bc pc = .ok (.dup_x2, 1)) (hc : x.category = 1) (hc2 : y.category = 1) (hc3 : z.category = 1) (q : Nat) (hq : pc + 1 = q) (g : Ok W R n0 Q h k n q Ls (x :: y :: z :: x :: st)) : Ok W R n0 Q h k n pc Ls (x :: y :: z :: st) := by
  subst hq
  exact g.back fun T locs X e t s => by
    have hd' := hb C.2.2.1 hd
    have hx := C.1
    show Steps _ _ _ (T.setTop { method := W.m, pc := pc, locals := Ls.toArray, stack := x :: y :: z :: st, locked := none }) _
    jvm_step X.here [X.here.top, hx, hd', hc, hc2, hc3]
    exact s
theorem Ok.goto (C : Cx W Z own nm bc maxL rt) {o : Int} (hd : decode bc pc = .ok (.goto o, 3)) (q : Nat) (hq : (pc : Int) + o = q) (g : Ok W R n0 Q h k n q Ls st) : Ok W R n0 Q h k n pc Ls st :=
  g.back fun T locs X e t s => XS.goto X.here C.1 rfl (pc0 := pc) (pc' := q) rfl (hb C.2.2.1 hd) (by omega) (by omega) s
theorem Ok.icmpB (C : Cx W Z own nm bc maxL rt) {cd : ClassFile.Cond} {x y : Int32} {o : Int} (hd : decode bc pc = .ok (.if_icmp cd o, 3)) (t q : Nat) (ht : (pc : Int) + o = t) (hq : pc + 3 = q) (g1 : if_icmp.holds cd x y = true → Ok W R n0 Q h k n t Ls st) (g2 : if_icmp.holds cd x y = false → Ok W R n0 Q h k n q Ls st) : Ok W R n0 Q h k n pc Ls (.int y :: .int x :: st) := by
  subst hq
  cases hc : if_icmp.holds cd x y
  · exact (g2 hc).back fun T locs X e t s => XS.icmpNo X.here C.1 rfl (hb C.2.2.1 hd) rfl hc s
  · exact (g1 hc).back fun T locs X e t' s => XS.icmpYes X.here C.1 rfl (pc0 := pc) (pc' := t) rfl (hb C.2.2.1 hd) rfl hc (by omega) (by omega) s
theorem Ok.ifB (C : Cx W Z own nm bc maxL rt) {cd : ClassFile.Cond} {x : Int32} {o : Int} (hd : decode bc pc = .ok (.ifCond cd o, 3)) (t q : Nat) (ht : (pc : Int) + o = t) (hq : pc + 3 = q) (g1 : if_icmp.holds cd x 0 = true → Ok W R n0 Q h k n t Ls st) (g2 : if_icmp.holds cd x 0 = false → Ok W R n0 Q h k n q Ls st) : Ok W R n0 Q h k n pc Ls (.int x :: st) := by
  subst hq
  cases hc : if_icmp.holds cd x 0
  · exact (g2 hc).back fun T locs X e t s => XS.ifNo X.here C.1 rfl (hb C.2.2.1 hd) rfl ((if0 _ _).trans hc) s
  · exact (g1 hc).back fun T locs X e t' s => XS.ifYes X.here C.1 rfl (pc0 := pc) (pc' := t) rfl (hb C.2.2.1 hd) rfl ((if0 _ _).trans hc) (by omega) (by omega) s
theorem Ok.lcmp (C : Cx W Z own nm bc maxL rt) {x y : Int64} (hd : decode bc pc = .ok (.lcmp, 1)) (q : Nat) (hq : pc + 1 = q) (g : Ok W R n0 Q h k n q Ls (.int (lcmpW x y) :: st)) : Ok W R n0 Q h k n pc Ls (.long y :: .long x :: st) := by
  subst hq
  exact g.back fun T locs X e t s => XS.lcmp X.here C.1 rfl (hb C.2.2.1 hd) rfl s
theorem h_lt {x y : Int32} : (if_icmp.holds .lt x y = true → x.toInt < y.toInt) ∧ (if_icmp.holds .lt x y = false → y.toInt ≤ x.toInt) := by simp [if_icmp.holds, Int32.lt_iff_toInt_lt]
theorem h_ge {x y : Int32} : (if_icmp.holds .ge x y = true → y.toInt ≤ x.toInt) ∧ (if_icmp.holds .ge x y = false → x.toInt < y.toInt) := by simp [if_icmp.holds, Int32.le_iff_toInt_le]
theorem h_gt {x y : Int32} : (if_icmp.holds .gt x y = true → y.toInt < x.toInt) ∧ (if_icmp.holds .gt x y = false → x.toInt ≤ y.toInt) := by simp [if_icmp.holds, Int32.lt_iff_toInt_lt]
theorem h_le {x y : Int32} : (if_icmp.holds .le x y = true → x.toInt ≤ y.toInt) ∧ (if_icmp.holds .le x y = false → y.toInt < x.toInt) := by simp [if_icmp.holds, Int32.le_iff_toInt_le]
theorem h_eq {x y : Int32} : (if_icmp.holds .eq x y = true → x.toInt = y.toInt) ∧ (if_icmp.holds .eq x y = false → x.toInt ≠ y.toInt) := by simp [if_icmp.holds, Int32.toInt_inj]
theorem h_ne {x y : Int32} : (if_icmp.holds .ne x y = true → x.toInt ≠ y.toInt) ∧ (if_icmp.holds .ne x y = false → x.toInt = y.toInt) := by simp [if_icmp.holds, Int32.toInt_inj]
theorem lw_z (x y : Int64) : (lcmpW x y).toInt = 1 ∧ y.toInt < x.toInt ∨ (lcmpW x y).toInt = 0 ∧ x.toInt = y.toInt ∨ (lcmpW x y).toInt = -1 ∧ x.toInt < y.toInt := by
  obtain ⟨a, b, c⟩ := c_lcmp x y
  by_cases h1 : x.toInt < y.toInt
  · exact Or.inr (Or.inr ⟨a h1, h1⟩)
  · by_cases h2 : x.toInt = y.toInt
    · exact Or.inr (Or.inl ⟨b h2, h2⟩)
    · exact Or.inl ⟨c (by omega), by omega⟩
theorem z32 : (0 : Int32).toInt = 0 := rfl
theorem Ok.icmp_lt (C : Cx W Z own nm bc maxL rt) {x y : Int32} {o : Int} (hd : decode bc pc = .ok (.if_icmp .lt o, 3)) (t q : Nat) (ht : (pc : Int) + o = t) (hq : pc + 3 = q) (g1 : x.toInt < y.toInt → Ok W R n0 Q h k n t Ls st) (g2 : y.toInt ≤ x.toInt → Ok W R n0 Q h k n q Ls st) : Ok W R n0 Q h k n pc Ls (.int y :: .int x :: st) :=
  Ok.icmpB C hd t q ht hq (fun z => g1 (h_lt.1 z)) (fun z => g2 (h_lt.2 z))
theorem Ok.if_lt (C : Cx W Z own nm bc maxL rt) {x : Int32} {o : Int} (hd : decode bc pc = .ok (.ifCond .lt o, 3)) (t q : Nat) (ht : (pc : Int) + o = t) (hq : pc + 3 = q) (g1 : x.toInt < 0 → Ok W R n0 Q h k n t Ls st) (g2 : 0 ≤ x.toInt → Ok W R n0 Q h k n q Ls st) : Ok W R n0 Q h k n pc Ls (.int x :: st) :=
  Ok.ifB C hd t q ht hq (fun z => g1 (h_lt.1 z)) (fun z => g2 (h_lt.2 z))
theorem Ok.lcmp_lt (C : Cx W Z own nm bc maxL rt) {x y : Int64} {o : Int} (hd0 : decode bc pc = .ok (.lcmp, 1)) (hd : decode bc (pc + 1) = .ok (.ifCond .lt o, 3)) (t q : Nat) (ht : ((pc + 1 : Nat) : Int) + o = t) (hq : pc + 1 + 3 = q) (g1 : x.toInt < y.toInt → Ok W R n0 Q h k n t Ls st) (g2 : y.toInt ≤ x.toInt → Ok W R n0 Q h k n q Ls st) : Ok W R n0 Q h k n pc Ls (.long y :: .long x :: st) :=
  Ok.lcmp C hd0 _ rfl (Ok.if_lt C hd t q ht hq (fun z => g1 (by have := lw_z x y; omega)) (fun z => g2 (by have := lw_z x y; omega)))
theorem Ok.icmp_ge (C : Cx W Z own nm bc maxL rt) {x y : Int32} {o : Int} (hd : decode bc pc = .ok (.if_icmp .ge o, 3)) (t q : Nat) (ht : (pc : Int) + o = t) (hq : pc + 3 = q) (g1 : y.toInt ≤ x.toInt → Ok W R n0 Q h k n t Ls st) (g2 : x.toInt < y.toInt → Ok W R n0 Q h k n q Ls st) : Ok W R n0 Q h k n pc Ls (.int y :: .int x :: st) :=
  Ok.icmpB C hd t q ht hq (fun z => g1 (h_ge.1 z)) (fun z => g2 (h_ge.2 z))
theorem Ok.if_ge (C : Cx W Z own nm bc maxL rt) {x : Int32} {o : Int} (hd : decode bc pc = .ok (.ifCond .ge o, 3)) (t q : Nat) (ht : (pc : Int) + o = t) (hq : pc + 3 = q) (g1 : 0 ≤ x.toInt → Ok W R n0 Q h k n t Ls st) (g2 : x.toInt < 0 → Ok W R n0 Q h k n q Ls st) : Ok W R n0 Q h k n pc Ls (.int x :: st) :=
  Ok.ifB C hd t q ht hq (fun z => g1 (h_ge.1 z)) (fun z => g2 (h_ge.2 z))
theorem Ok.lcmp_ge (C : Cx W Z own nm bc maxL rt) {x y : Int64} {o : Int} (hd0 : decode bc pc = .ok (.lcmp, 1)) (hd : decode bc (pc + 1) = .ok (.ifCond .ge o, 3)) (t q : Nat) (ht : ((pc + 1 : Nat) : Int) + o = t) (hq : pc + 1 + 3 = q) (g1 : y.toInt ≤ x.toInt → Ok W R n0 Q h k n t Ls st) (g2 : x.toInt < y.toInt → Ok W R n0 Q h k n q Ls st) : Ok W R n0 Q h k n pc Ls (.long y :: .long x :: st) :=
  Ok.lcmp C hd0 _ rfl (Ok.if_ge C hd t q ht hq (fun z => g1 (by have := lw_z x y; omega)) (fun z => g2 (by have := lw_z x y; omega)))
theorem Ok.icmp_gt (C : Cx W Z own nm bc maxL rt) {x y : Int32} {o : Int} (hd : decode bc pc = .ok (.if_icmp .gt o, 3)) (t q : Nat) (ht : (pc : Int) + o = t) (hq : pc + 3 = q) (g1 : y.toInt < x.toInt → Ok W R n0 Q h k n t Ls st) (g2 : x.toInt ≤ y.toInt → Ok W R n0 Q h k n q Ls st) : Ok W R n0 Q h k n pc Ls (.int y :: .int x :: st) :=
  Ok.icmpB C hd t q ht hq (fun z => g1 (h_gt.1 z)) (fun z => g2 (h_gt.2 z))
theorem Ok.if_gt (C : Cx W Z own nm bc maxL rt) {x : Int32} {o : Int} (hd : decode bc pc = .ok (.ifCond .gt o, 3)) (t q : Nat) (ht : (pc : Int) + o = t) (hq : pc + 3 = q) (g1 : 0 < x.toInt → Ok W R n0 Q h k n t Ls st) (g2 : x.toInt ≤ 0 → Ok W R n0 Q h k n q Ls st) : Ok W R n0 Q h k n pc Ls (.int x :: st) :=
  Ok.ifB C hd t q ht hq (fun z => g1 (h_gt.1 z)) (fun z => g2 (h_gt.2 z))
theorem Ok.lcmp_gt (C : Cx W Z own nm bc maxL rt) {x y : Int64} {o : Int} (hd0 : decode bc pc = .ok (.lcmp, 1)) (hd : decode bc (pc + 1) = .ok (.ifCond .gt o, 3)) (t q : Nat) (ht : ((pc + 1 : Nat) : Int) + o = t) (hq : pc + 1 + 3 = q) (g1 : y.toInt < x.toInt → Ok W R n0 Q h k n t Ls st) (g2 : x.toInt ≤ y.toInt → Ok W R n0 Q h k n q Ls st) : Ok W R n0 Q h k n pc Ls (.long y :: .long x :: st) :=
  Ok.lcmp C hd0 _ rfl (Ok.if_gt C hd t q ht hq (fun z => g1 (by have := lw_z x y; omega)) (fun z => g2 (by have := lw_z x y; omega)))
theorem Ok.icmp_le (C : Cx W Z own nm bc maxL rt) {x y : Int32} {o : Int} (hd : decode bc pc = .ok (.if_icmp .le o, 3)) (t q : Nat) (ht : (pc : Int) + o = t) (hq : pc + 3 = q) (g1 : x.toInt ≤ y.toInt → Ok W R n0 Q h k n t Ls st) (g2 : y.toInt < x.toInt → Ok W R n0 Q h k n q Ls st) : Ok W R n0 Q h k n pc Ls (.int y :: .int x :: st) :=
  Ok.icmpB C hd t q ht hq (fun z => g1 (h_le.1 z)) (fun z => g2 (h_le.2 z))
theorem Ok.if_le (C : Cx W Z own nm bc maxL rt) {x : Int32} {o : Int} (hd : decode bc pc = .ok (.ifCond .le o, 3)) (t q : Nat) (ht : (pc : Int) + o = t) (hq : pc + 3 = q) (g1 : x.toInt ≤ 0 → Ok W R n0 Q h k n t Ls st) (g2 : 0 < x.toInt → Ok W R n0 Q h k n q Ls st) : Ok W R n0 Q h k n pc Ls (.int x :: st) :=
  Ok.ifB C hd t q ht hq (fun z => g1 (h_le.1 z)) (fun z => g2 (h_le.2 z))
theorem Ok.lcmp_le (C : Cx W Z own nm bc maxL rt) {x y : Int64} {o : Int} (hd0 : decode bc pc = .ok (.lcmp, 1)) (hd : decode bc (pc + 1) = .ok (.ifCond .le o, 3)) (t q : Nat) (ht : ((pc + 1 : Nat) : Int) + o = t) (hq : pc + 1 + 3 = q) (g1 : x.toInt ≤ y.toInt → Ok W R n0 Q h k n t Ls st) (g2 : y.toInt < x.toInt → Ok W R n0 Q h k n q Ls st) : Ok W R n0 Q h k n pc Ls (.long y :: .long x :: st) :=
  Ok.lcmp C hd0 _ rfl (Ok.if_le C hd t q ht hq (fun z => g1 (by have := lw_z x y; omega)) (fun z => g2 (by have := lw_z x y; omega)))
theorem Ok.icmp_eq (C : Cx W Z own nm bc maxL rt) {x y : Int32} {o : Int} (hd : decode bc pc = .ok (.if_icmp .eq o, 3)) (t q : Nat) (ht : (pc : Int) + o = t) (hq : pc + 3 = q) (g1 : x.toInt = y.toInt → Ok W R n0 Q h k n t Ls st) (g2 : x.toInt ≠ y.toInt → Ok W R n0 Q h k n q Ls st) : Ok W R n0 Q h k n pc Ls (.int y :: .int x :: st) :=
  Ok.icmpB C hd t q ht hq (fun z => g1 (h_eq.1 z)) (fun z => g2 (h_eq.2 z))
theorem Ok.if_eq (C : Cx W Z own nm bc maxL rt) {x : Int32} {o : Int} (hd : decode bc pc = .ok (.ifCond .eq o, 3)) (t q : Nat) (ht : (pc : Int) + o = t) (hq : pc + 3 = q) (g1 : x.toInt = 0 → Ok W R n0 Q h k n t Ls st) (g2 : x.toInt ≠ 0 → Ok W R n0 Q h k n q Ls st) : Ok W R n0 Q h k n pc Ls (.int x :: st) :=
  Ok.ifB C hd t q ht hq (fun z => g1 (h_eq.1 z)) (fun z => g2 (h_eq.2 z))
theorem Ok.lcmp_eq (C : Cx W Z own nm bc maxL rt) {x y : Int64} {o : Int} (hd0 : decode bc pc = .ok (.lcmp, 1)) (hd : decode bc (pc + 1) = .ok (.ifCond .eq o, 3)) (t q : Nat) (ht : ((pc + 1 : Nat) : Int) + o = t) (hq : pc + 1 + 3 = q) (g1 : x.toInt = y.toInt → Ok W R n0 Q h k n t Ls st) (g2 : x.toInt ≠ y.toInt → Ok W R n0 Q h k n q Ls st) : Ok W R n0 Q h k n pc Ls (.long y :: .long x :: st) :=
  Ok.lcmp C hd0 _ rfl (Ok.if_eq C hd t q ht hq (fun z => g1 (by have := lw_z x y; omega)) (fun z => g2 (by have := lw_z x y; omega)))
theorem Ok.icmp_ne (C : Cx W Z own nm bc maxL rt) {x y : Int32} {o : Int} (hd : decode bc pc = .ok (.if_icmp .ne o, 3)) (t q : Nat) (ht : (pc : Int) + o = t) (hq : pc + 3 = q) (g1 : x.toInt ≠ y.toInt → Ok W R n0 Q h k n t Ls st) (g2 : x.toInt = y.toInt → Ok W R n0 Q h k n q Ls st) : Ok W R n0 Q h k n pc Ls (.int y :: .int x :: st) :=
  Ok.icmpB C hd t q ht hq (fun z => g1 (h_ne.1 z)) (fun z => g2 (h_ne.2 z))
theorem Ok.if_ne (C : Cx W Z own nm bc maxL rt) {x : Int32} {o : Int} (hd : decode bc pc = .ok (.ifCond .ne o, 3)) (t q : Nat) (ht : (pc : Int) + o = t) (hq : pc + 3 = q) (g1 : x.toInt ≠ 0 → Ok W R n0 Q h k n t Ls st) (g2 : x.toInt = 0 → Ok W R n0 Q h k n q Ls st) : Ok W R n0 Q h k n pc Ls (.int x :: st) :=
  Ok.ifB C hd t q ht hq (fun z => g1 (h_ne.1 z)) (fun z => g2 (h_ne.2 z))
theorem Ok.lcmp_ne (C : Cx W Z own nm bc maxL rt) {x y : Int64} {o : Int} (hd0 : decode bc pc = .ok (.lcmp, 1)) (hd : decode bc (pc + 1) = .ok (.ifCond .ne o, 3)) (t q : Nat) (ht : ((pc + 1 : Nat) : Int) + o = t) (hq : pc + 1 + 3 = q) (g1 : x.toInt ≠ y.toInt → Ok W R n0 Q h k n t Ls st) (g2 : x.toInt = y.toInt → Ok W R n0 Q h k n q Ls st) : Ok W R n0 Q h k n pc Ls (.long y :: .long x :: st) :=
  Ok.lcmp C hd0 _ rfl (Ok.if_ne C hd t q ht hq (fun z => g1 (by have := lw_z x y; omega)) (fun z => g2 (by have := lw_z x y; omega)))
/-! the heap -/
theorem Ok.getfield (C : Cx W Z own nm bc maxL rt) {O f d : String} {i : Nat} {a : Addr} {v : Value} (w : (Jvm.Cond.fieldLink own i O f d).before a0 Z = true) (hd : decode bc pc = .ok (.getfield i, 3)) (F : Fld Z h a O f d v) (q : Nat) (hq : pc + 3 = q) (g : Ok W R n0 Q h k n q Ls (v :: st)) : Ok W R n0 Q h k n pc Ls (.ref a :: st) := by
  subst hq
  exact g.move fun T locs X e => getF X C.1 C.2.1 C.2.2.2.2.1 (host := "") (Or.inl w) Via.refl e F (g := mkF W.m pc Ls.toArray (.ref a :: st)) rfl rfl (hb C.2.2.1 hd)
theorem Ok.putfield (C : Cx W Z own nm bc maxL rt) {O f d K : String} {i kk : Nat} {a : Addr} {v old : Value} {ty : FieldType} (w : (Jvm.Cond.fieldLink own i O f d).before a0 Z = true) (hd : decode bc pc = .ok (.putfield i, 3)) (F : Fld Z h a O f d old) (E : Exa Z h a K) (L : (Jvm.Cond.lays K O f d).before a0 Z = true ∨ ((Jvm.Cond.laysFinal K O f d).before a0 Z = true ∧ own = O ∧ nm = "<init>")) (wi : (Jvm.Cond.instantiable K kk).before a0 Z = true)
    (hty : parseFieldDescriptor d = some ty) (hn : narrow ty v = v) (hf : fits ty v = true) (hN : n0 ≤ a) (q : Nat) (hq : pc + 3 = q) (g : ∀ h', Wr h h' a (Jvm.RoadKit.slotOf Z O f d) v → Fld Z h' a O f d v → Ok W R n0 Q h' k n q Ls st) : Ok W R n0 Q h k n pc Ls (v :: .ref a :: st) := fun T locs X e N => by
  subst hq
  obtain ⟨T', h', X', e', Wr', st'⟩ := putF X C.1 C.2.1 C.2.2.2.2.1 (host := "") (Or.inl w) Via.refl e F E (L.imp id fun z => ⟨z.1, z.2.1, C.2.2.2.2.2.2.2.trans z.2.2⟩) wi hty hn hf (g := mkF W.m pc Ls.toArray (v :: .ref a :: st)) rfl rfl (hb C.2.2.1 hd)
  obtain ⟨s₂, o, S, r⟩ := g h' Wr' (F.same Wr') T' _ X' e' (Fr.snoc X' N hN)
  exact ⟨s₂, o, st' _ S, r⟩
theorem Ok.new (C : Cx W Z own nm bc maxL rt) {K : String} {i m : Nat} (w : (Jvm.Cond.classLink own i K).before a0 Z = true) (wi : (Jvm.Cond.instantiable K m).before a0 Z = true) (wz : (Jvm.Cond.initialized K).before a0 Z = true) (hd : decode bc pc = .ok (.new i, 3)) (hc : k + 1 ≤ R.cells) (hl : n + m ≤ R.slots) (q : Nat) (hq : pc + 3 = q)
    (g : ∀ h' a, a = h.size → Ext h h' → Exa Z h' a K → (∀ {O nm d : String} {ty : FieldType}, Laid Z a0 K O nm d → parseFieldDescriptor d = some ty → Fld Z h' a O nm d (defaultValue ty)) → Ok W R n0 Q h' (k + 1) (n + m) q Ls (.ref a :: st)) : Ok W R n0 Q h k n pc Ls st := fun T locs X e N => by
  subst hq
  obtain ⟨T', h', X', e', E', A', D', -, st'⟩ := newO X C.1 C.2.1 C.2.2.2.2.1 w wi wz e (g := mkF W.m pc Ls.toArray st) rfl (hb C.2.2.1 hd) hc hl
  obtain ⟨s₂, o, S, r⟩ := g h' _ rfl E' A' D' T' _ X' e' N
  exact ⟨s₂, o, st' _ S, r⟩
/-- the array at a holds vs -/
def AI (Z : State) (h : Heap) (a : Addr) (ty : FieldType) (vs : List Value) : Prop := ∃ c : Cell, Arr Z h a c ty ∧ c.slots = vs.toArray
theorem AI.lt {a : Addr} {ty : FieldType} {vs : List Value} (F : AI Z h a ty vs) : a < h.size := by obtain ⟨c, A, -⟩ := F; exact A.lt
theorem AI.ext {h' : Heap} {a : Addr} {ty : FieldType} {vs : List Value} (F : AI Z h a ty vs) (E : Ext h h') : AI Z h' a ty vs := by obtain ⟨c, A, r⟩ := F; exact ⟨c, A.ext E, r⟩
theorem AI.other {h' : Heap} {a b : Addr} {sl : Nat} {v : Value} {ty : FieldType} {vs : List Value} (F : AI Z h b ty vs) (W : Wr h h' a sl v) (q : b ≠ a) : AI Z h' b ty vs := by obtain ⟨c, A, r⟩ := F; exact ⟨c, A.other W q, r⟩
theorem AI.keep {h' : Heap} {a : Addr} {ws : List Addr} {ty : FieldType} {vs : List Value} (F : AI Z h a ty vs) (K : Keep h h' ws) (q : a ∉ ws) : AI Z h' a ty vs := by obtain ⟨c, A, r⟩ := F; exact ⟨c, ⟨K.2.1 a c A.1 q, A.2⟩, r⟩
theorem AI.same {h' : Heap} {a : Addr} {i : Nat} {v : Value} {ty : FieldType} {vs : List Value} (F : AI Z h a ty vs) (W : Wr h h' a i v) : AI Z h' a ty (vs.set i v) := by
  obtain ⟨c, A, r⟩ := F; exact ⟨_, A.same W, by simp [Cell.setSlot, r]⟩
theorem ne_AI {a b : Addr} {K : String} {kk : Nat} {ty : FieldType} {vs : List Value} (E : Exa Z h a K) (wi : (Jvm.Cond.instantiable K kk).before a0 Z = true) (F : AI Z h b ty vs) : a ≠ b := by obtain ⟨c, A, -⟩ := F; exact ne_arr E wi A
theorem own_nat {j : Int32} {i : Nat} (hj : j.toInt = i) : j.toNatClampNeg = i ∧ ¬ j < 0 := by
  have h2 : ¬ j < 0 := by rw [Int32.lt_iff_toInt_lt, z32]; omega
  have h3 := nat_of h2
  exact ⟨by omega, h2⟩
theorem own_in {c : Cell} {j : Int32} {i : Nat} {vs : List Value} (hj : j.toInt = i) (hc : c.slots = vs.toArray) (hi : i < vs.length) : ¬ (j < 0 ∨ c.slots.size ≤ j.toNatClampNeg) := by
  obtain ⟨h1, h2⟩ := own_nat hj
  rintro (h3 | h3)
  · exact h2 h3
  · rw [hc, h1] at h3; simp at h3; omega
theorem own_at {c : Cell} {j : Int32} {i : Nat} {vs : List Value} {v : Value} (hj : j.toInt = i) (hc : c.slots = vs.toArray) (hv : vs[i]? = some v) : c.slots[j.toNatClampNeg]? = some v := by
  rw [(own_nat hj).1, hc]; simpa using hv
theorem own_bd {i : Nat} {vs : List Value} {v : Value} (hv : vs[i]? = some v) : i < vs.length := (List.getElem?_eq_some_iff.mp hv).1
theorem Ok.newarray (C : Cx W Z own nm bc maxL rt) {aty : ArrayType} {ty : FieldType} {z : Int32} (w : (Jvm.Cond.arrayClass ty).before a0 Z = true) (hd : decode bc pc = .ok (.newarray aty, 2)) (hty : newarray.typeOf aty = ty) (i : Nat) (hz : z.toInt = i) (hb' : i * 8 ≤ 536870912) (cap : Nat) (hcap : i ≤ cap) (hb2 : cap * 8 ≤ 536870912) (hc : k + 1 ≤ R.cells) (hl : n + cap ≤ R.slots) (q : Nat) (hq : pc + 2 = q)
    (g : ∀ h' a, a = h.size → Ext h h' → AI Z h' a ty (List.replicate i (defaultValue ty)) → Ok W R n0 Q h' (k + 1) (n + cap) q Ls (.ref a :: st)) : Ok W R n0 Q h k n pc Ls (.int z :: st) := fun T locs X e N => by
  subst hq hty
  obtain ⟨z1, z2⟩ := own_nat hz
  obtain ⟨T', h', cA, X', e', E', A', st'⟩ := newP X C.1 C.2.1 w e (g := mkF W.m pc Ls.toArray (.int z :: st)) rfl (hb C.2.2.1 hd) rfl z2 (cap := cap) (by omega) hb2 hc hl
  obtain ⟨s₂, o, S, r⟩ := g h' _ rfl E' ⟨_, A', by simp [newA, z1]⟩ T' _ X' e' N
  exact ⟨s₂, o, st' _ S, r⟩
theorem Ok.arraylength (C : Cx W Z own nm bc maxL rt) {a : Addr} {ty : FieldType} {vs : List Value} (hd : decode bc pc = .ok (.arraylength, 1)) (F : AI Z h a ty vs) (z : Int32) (hz : vs.length.toInt32 = z) (q : Nat) (hq : pc + 1 = q) (g : Ok W R n0 Q h k n q Ls (.int z :: st)) : Ok W R n0 Q h k n pc Ls (.ref a :: st) := by
  subst hq hz
  obtain ⟨c, A, hc⟩ := F
  have hs : c.slots.size = vs.length := by rw [hc]; simp
  rw [← hs] at g
  exact g.back fun T locs X e t s => X.arraylength C.1 (by rw [e]; exact A.1) (State.isArrayOf_alike C.2.1.alike A.2.1) (g := mkF W.m pc Ls.toArray (.ref a :: st)) rfl rfl (hb C.2.2.1 hd) t s
theorem Ok.iaload (C : Cx W Z own nm bc maxL rt) {a : Addr} {j : Int32} {v : Value} {vs : List Value} (hd : decode bc pc = .ok (.iaload, 1)) (F : AI Z h a .int vs) (i : Nat) (hj : j.toInt = i) (hv : vs[i]? = some v) (q : Nat) (hq : pc + 1 = q) (g : Ok W R n0 Q h k n q Ls (v :: st)) : Ok W R n0 Q h k n pc Ls (.int j :: .ref a :: st) := by
  subst hq
  obtain ⟨c, A, hc⟩ := F
  exact g.back fun T locs X e t s => X.iaload C.1 (j := j) (v := v) (by rw [e]; exact A.1) (State.isArrayOf_alike C.2.1.alike A.2.1) A.2.2 (own_in hj hc (own_bd hv)) (own_at hj hc hv) (g := mkF W.m pc Ls.toArray (.int j :: .ref a :: st)) rfl rfl (hb C.2.2.1 hd) t s
theorem Ok.laload (C : Cx W Z own nm bc maxL rt) {a : Addr} {j : Int32} {v : Value} {vs : List Value} (hd : decode bc pc = .ok (.laload, 1)) (F : AI Z h a .long vs) (i : Nat) (hj : j.toInt = i) (hv : vs[i]? = some v) (q : Nat) (hq : pc + 1 = q) (g : Ok W R n0 Q h k n q Ls (v :: st)) : Ok W R n0 Q h k n pc Ls (.int j :: .ref a :: st) := by
  subst hq
  obtain ⟨c, A, hc⟩ := F
  exact g.back fun T locs X e t s => X.laload C.1 (j := j) (v := v) (by rw [e]; exact A.1) (State.isArrayOf_alike C.2.1.alike A.2.1) A.2.2 (own_in hj hc (own_bd hv)) (own_at hj hc hv) (g := mkF W.m pc Ls.toArray (.int j :: .ref a :: st)) rfl rfl (hb C.2.2.1 hd) t s
theorem Ok.baload (C : Cx W Z own nm bc maxL rt) {a : Addr} {j : Int32} {v : Value} {vs : List Value} (hd : decode bc pc = .ok (.baload, 1)) (F : AI Z h a .byte vs) (i : Nat) (hj : j.toInt = i) (hv : vs[i]? = some v) (q : Nat) (hq : pc + 1 = q) (g : Ok W R n0 Q h k n q Ls (v :: st)) : Ok W R n0 Q h k n pc Ls (.int j :: .ref a :: st) := by
  subst hq
  obtain ⟨c, A, hc⟩ := F
  exact g.back fun T locs X e t s => X.baloadBytes C.1 (j := j) (v := v) (by rw [e]; exact A.1) (State.isArrayOf_alike C.2.1.alike A.2.1) A.2.2 (own_in hj hc (own_bd hv)) (own_at hj hc hv) (g := mkF W.m pc Ls.toArray (.int j :: .ref a :: st)) rfl rfl (hb C.2.2.1 hd) t s
theorem Ok.zaload (C : Cx W Z own nm bc maxL rt) {a : Addr} {j : Int32} {v : Value} {vs : List Value} (hd : decode bc pc = .ok (.baload, 1)) (F : AI Z h a .boolean vs) (i : Nat) (hj : j.toInt = i) (hv : vs[i]? = some v) (q : Nat) (hq : pc + 1 = q) (g : Ok W R n0 Q h k n q Ls (v :: st)) : Ok W R n0 Q h k n pc Ls (.int j :: .ref a :: st) := by
  subst hq
  obtain ⟨c, A, hc⟩ := F
  exact g.back fun T locs X e t s => X.baloadBooleans C.1 (j := j) (v := v) (by rw [e]; exact A.1) (State.isArrayOf_alike C.2.1.alike A.2.1) A.2.2 (own_in hj hc (own_bd hv)) (own_at hj hc hv) (g := mkF W.m pc Ls.toArray (.int j :: .ref a :: st)) rfl rfl (hb C.2.2.1 hd) t s
theorem Ok.iastore (C : Cx W Z own nm bc maxL rt) {a : Addr} {j : Int32} {x : Int32} {vs : List Value} (hd : decode bc pc = .ok (.iastore, 1)) (F : AI Z h a .int vs) (i : Nat) (hj : j.toInt = i) (hi : i < vs.length) (hN : n0 ≤ a) (q : Nat) (hq : pc + 1 = q) (g : ∀ h', Wr h h' a i (.int x) → AI Z h' a .int (vs.set i (.int x)) → Ok W R n0 Q h' k n q Ls st) : Ok W R n0 Q h k n pc Ls (.int x :: .int j :: .ref a :: st) := fun T locs X e N => by
  subst hq
  obtain ⟨c, A, hc⟩ := F
  obtain ⟨T', h', X', e', Wr', st'⟩ := stI X C.1 C.2.1 e A (j := j) (x := x) (own_in hj hc hi) (g := mkF W.m pc Ls.toArray (.int x :: .int j :: .ref a :: st)) rfl rfl (hb C.2.2.1 hd)
  have N' := Fr.snoc X' N hN
  rw [(own_nat hj).1] at Wr'
  obtain ⟨s₂, o, S, r⟩ := g h' Wr' (AI.same ⟨c, A, hc⟩ Wr') T' _ X' e' N'
  exact ⟨s₂, o, st' _ S, r⟩
theorem Ok.lastore (C : Cx W Z own nm bc maxL rt) {a : Addr} {j : Int32} {x : Int64} {vs : List Value} (hd : decode bc pc = .ok (.lastore, 1)) (F : AI Z h a .long vs) (i : Nat) (hj : j.toInt = i) (hi : i < vs.length) (hN : n0 ≤ a) (q : Nat) (hq : pc + 1 = q) (g : ∀ h', Wr h h' a i (.long x) → AI Z h' a .long (vs.set i (.long x)) → Ok W R n0 Q h' k n q Ls st) : Ok W R n0 Q h k n pc Ls (.long x :: .int j :: .ref a :: st) := fun T locs X e N => by
  subst hq
  obtain ⟨c, A, hc⟩ := F
  obtain ⟨T', h', X', e', Wr', st'⟩ := stJ X C.1 C.2.1 e A (j := j) (x := x) (own_in hj hc hi) (g := mkF W.m pc Ls.toArray (.long x :: .int j :: .ref a :: st)) rfl rfl (hb C.2.2.1 hd)
  have N' := Fr.snoc X' N hN
  rw [(own_nat hj).1] at Wr'
  obtain ⟨s₂, o, S, r⟩ := g h' Wr' (AI.same ⟨c, A, hc⟩ Wr') T' _ X' e' N'
  exact ⟨s₂, o, st' _ S, r⟩
theorem Ok.bastore (C : Cx W Z own nm bc maxL rt) {a : Addr} {j : Int32} {x : Int32} {vs : List Value} (hd : decode bc pc = .ok (.bastore, 1)) (F : AI Z h a .byte vs) (i : Nat) (hj : j.toInt = i) (hi : i < vs.length) (hN : n0 ≤ a) (q : Nat) (hq : pc + 1 = q) (g : ∀ h', Wr h h' a i (.int (x.toInt8.toInt32)) → AI Z h' a .byte (vs.set i (.int (x.toInt8.toInt32))) → Ok W R n0 Q h' k n q Ls st) : Ok W R n0 Q h k n pc Ls (.int x :: .int j :: .ref a :: st) := fun T locs X e N => by
  subst hq
  obtain ⟨c, A, hc⟩ := F
  obtain ⟨T', h', X', e', Wr', st'⟩ := stB X C.1 C.2.1 e A (j := j) (x := x) (own_in hj hc hi) (g := mkF W.m pc Ls.toArray (.int x :: .int j :: .ref a :: st)) rfl rfl (hb C.2.2.1 hd)
  have N' := Fr.snoc X' N hN
  rw [(own_nat hj).1] at Wr'
  obtain ⟨s₂, o, S, r⟩ := g h' Wr' (AI.same ⟨c, A, hc⟩ Wr') T' _ X' e' N'
  exact ⟨s₂, o, st' _ S, r⟩
theorem Ok.zastore (C : Cx W Z own nm bc maxL rt) {a : Addr} {j : Int32} {x : Int32} {vs : List Value} (hd : decode bc pc = .ok (.bastore, 1)) (F : AI Z h a .boolean vs) (i : Nat) (hj : j.toInt = i) (hi : i < vs.length) (hN : n0 ≤ a) (q : Nat) (hq : pc + 1 = q) (g : ∀ h', Wr h h' a i (.int (x &&& 1)) → AI Z h' a .boolean (vs.set i (.int (x &&& 1))) → Ok W R n0 Q h' k n q Ls st) : Ok W R n0 Q h k n pc Ls (.int x :: .int j :: .ref a :: st) := fun T locs X e N => by
  subst hq
  obtain ⟨c, A, hc⟩ := F
  obtain ⟨T', h', X', e', Wr', st'⟩ := stZ X C.1 C.2.1 e A (j := j) (x := x) (own_in hj hc hi) (g := mkF W.m pc Ls.toArray (.int x :: .int j :: .ref a :: st)) rfl rfl (hb C.2.2.1 hd)
  have N' := Fr.snoc X' N hN
  rw [(own_nat hj).1] at Wr'
  obtain ⟨s₂, o, S, r⟩ := g h' Wr' (AI.same ⟨c, A, hc⟩ Wr') T' _ X' e' N'
  exact ⟨s₂, o, st' _ S, r⟩
/-! the end -/
theorem Ok.fin {T : State} {locs : List Loc} {v : Option Value} (C : Cx W Z own nm bc maxL rt) (hv : rt = none → v = none) (X : Stand W.p W.l W.e R W.s W.m W.args W.below W.meth W.c T locs k n) (e : T.heap = h) (N : Fr n0 locs) (hk : k ≤ R.cells) (hn : n ≤ R.slots) (hQ : Q v h) {f : State}
    (hst : ∀ fs, (∀ (f : JFrame) (acts : List Action), f.method = W.m → f.locked = none → f.entered = [] → (doReturn W.e (T.setTop f) acts v).1 = T.setFrames fs) → Steps W.p.tables W.e W.below f (T.setFrames fs)) :
    ∃ s₂ o, Steps W.p.tables W.e W.below f s₂ ∧ s₂.status = .running ∧ Ended s₂ W.below o ∧ ∃ v L, o = .returned v ∧ (Q v s₂.heap ∧ Fr n0 L) ∧ FrameEnd W.s o s₂ L R.cells R.slots := by
  obtain ⟨fs, hr, hrun, hended, hW, hsame⟩ := X.leave (v := v) (fun z => hv (C.2.2.2.2.2.1.symm.trans z)) C.2.2.2.2.2.2.1
  have hQ' : Q v (T.setFrames fs).heap := by show Q v T.heap; rw [e]; exact hQ
  exact ⟨_, _, hst fs hr, hrun, hended, _, _, rfl, ⟨hQ', N⟩, ⟨_, rfl⟩, hW, hsame.mono hk hn⟩
theorem Ok.ireturn (C : Cx W Z own nm bc maxL (some .int)) {x : Int32} (hd : decode bc pc = .ok (.ireturn, 1)) (hk : k ≤ R.cells) (hn : n ≤ R.slots) (hQ : Q (some (.int x)) h) : Ok W R n0 Q h k n pc Ls (.int x :: st) := fun T locs X e N =>
  Ok.fin C (fun z => by cases z) X e N hk hn hQ fun fs hr => retOut X C.1 C.2.2.2.2.2.1 rfl (Or.inl ⟨rfl, Or.inl rfl, _, rfl⟩) (hb C.2.2.1 hd) hr
theorem Ok.zreturn (C : Cx W Z own nm bc maxL (some .boolean)) {x : Int32} (hd : decode bc pc = .ok (.ireturn, 1)) (hk : k ≤ R.cells) (hn : n ≤ R.slots) (hQ : Q (some (.int (x &&& 1))) h) : Ok W R n0 Q h k n pc Ls (.int x :: st) := fun T locs X e N =>
  Ok.fin C (fun z => by cases z) X e N hk hn hQ fun fs hr => retN X C.1 (t := .boolean) C.2.2.2.2.2.1 (Or.inl rfl) (hb C.2.2.1 hd) hr
theorem Ok.lreturn (C : Cx W Z own nm bc maxL (some .long)) {x : Int64} (hd : decode bc pc = .ok (.lreturn, 1)) (hk : k ≤ R.cells) (hn : n ≤ R.slots) (hQ : Q (some (.long x)) h) : Ok W R n0 Q h k n pc Ls (.long x :: st) := fun T locs X e N =>
  Ok.fin C (fun z => by cases z) X e N hk hn hQ fun fs hr => retOut X C.1 C.2.2.2.2.2.1 rfl (Or.inr (Or.inl ⟨rfl, rfl, _, rfl⟩)) (hb C.2.2.1 hd) hr
theorem Ok.vreturn (C : Cx W Z own nm bc maxL none) (hd : decode bc pc = .ok (.return_, 1)) (hk : k ≤ R.cells) (hn : n ≤ R.slots) (hQ : Q none h) : Ok W R n0 Q h k n pc Ls [] := fun T locs X e N =>
  Ok.fin C (fun _ => rfl) X e N hk hn hQ fun fs hr => X.returnOut C.1 C.2.2.2.2.2.1 (hb C.2.2.1 hd) hr
/-! calls -/
/-- the method y, called with as' over the heap h, returns with Q -/
def Does (l : Launch) (Z : State) (y : MethodName) (bytes : ByteArray) (mL : Nat) (rt : Option FieldType) (rm : Room) (as' : Array Value) (h : Heap) (n0 : Nat) (Q : Option Value → Heap → Prop) : Prop :=
  MetFree l y (head1 [Jvm.Cond.code y bytes mL rt] rm) (fun a U => a = as' ∧ Z.Warmed39 U.vm ∧ U.heap = h) (fun _ _ _ _ _ => True) (fun _ U o U' => ∃ v L, o = .returned v ∧ (Q v U'.heap ∧ Fr n0 L) ∧ FrameEnd U o U' L rm.cells rm.slots)
def DoesW (l : Launch) (Z : State) (y : MethodName) (bytes : ByteArray) (mL : Nat) (rt : Option FieldType) (rm : Room) (ws : List Jvm.Cond) (as' : Array Value) (h : Heap) (n0 : Nat) (Q : Option Value → Heap → Prop) : Prop :=
  MetFree l y (head1 (Jvm.Cond.code y bytes mL rt :: ws) rm) (fun a U => a = as' ∧ Z.Warmed39 U.vm ∧ U.heap = h) (fun _ _ _ _ _ => True) (fun _ U o U' => ∃ v L, o = .returned v ∧ (Q v U'.heap ∧ Fr n0 L) ∧ FrameEnd U o U' L rm.cells rm.slots)
theorem DoesW.of_body {l : Launch} {y : MethodName} {bytes : ByteArray} {mL : Nat} {rm : Room} {ws : List Jvm.Cond} {as' : Array Value} (hpl : plainFor y = true) (Ls0 : List Slot) (ef : ∀ m, entryFrame m as' mL = mkF m 0 Ls0.toArray [])
    (g : ∀ W : Wd, W.l = l → Cx W Z y.cls y.name bytes mL rt → Ok W rm n0 Q h 0 0 0 Ls0 []) : DoesW l Z y bytes mL rt rm ws as' h n0 Q := by
  unfold DoesW
  refine MetFree.of_bodySF hpl hisR ?_
  intro p e s m args below meth c s₁ Bd hml0 hP hK
  obtain ⟨rfl, hZ, hh⟩ := hP
  have X0 : Stand p l e rm s m args below meth c s₁ [] 0 0 := Stand.of_body Bd
  have e0 : s₁.heap = h := by rw [← hh, Bd.state]; rfl
  obtain ⟨s₂, o, S, r⟩ := g (p, l, e, s, m, args, below, meth, c) rfl ⟨Bd.exec, hZ, Bd.bytes, hml0, findClass_of_methodNamed Bd.named, Bd.returns, Bd.notSynchronized, (name_of_methodNamed Bd.named Bd.method).1⟩ s₁ [] X0 e0 (Fr.nil n0)
  exact ⟨s₂, o, castTop (ef m) S, r⟩
theorem Does.of_body {l : Launch} {y : MethodName} {bytes : ByteArray} {mL : Nat} {rm : Room} {as' : Array Value} (hpl : plainFor y = true) (Ls0 : List Slot) (ef : ∀ m, entryFrame m as' mL = mkF m 0 Ls0.toArray [])
    (g : ∀ W : Wd, W.l = l → Cx W Z y.cls y.name bytes mL rt → Ok W rm n0 Q h 0 0 0 Ls0 []) : Does l Z y bytes mL rt rm as' h n0 Q := DoesW.of_body (ws := []) hpl Ls0 ef g
theorem own_after {v : Option Value} {q : Nat} {rest : List Value} {rm : Room} {T : State} {locs L : List Loc} {h' : Heap} (g : Ok W R n0 Q h' (k + rm.cells) (n + rm.slots) q Ls (v.toList ++ rest)) (N : Fr n0 locs) (N' : Fr n0 L) (X : Stand W.p W.l W.e R W.s W.m W.args W.below W.meth W.c T (locs ++ L) (k + rm.cells) (n + rm.slots)) (e : T.heap = h') :
    ∃ s₂ o, Steps W.p.tables W.e W.below (T.setTop (mkF W.m q Ls.toArray (v.toList ++ rest))) s₂ ∧ s₂.status = .running ∧ Ended s₂ W.below o ∧ ∃ v L, o = .returned v ∧ (Q v s₂.heap ∧ Fr n0 L) ∧ FrameEnd W.s o s₂ L R.cells R.slots := g T _ X e (N.app N')
theorem Ok.callStatic (C : Cx W Z own nm bc maxL rt) {i : Nat} {y : MethodName} {bytes : ByteArray} {mL : Nat} {rt' : Option FieldType} {rm : Room} {ps : List FieldType} {Q' : Option Value → Heap → Prop} (argsL rest : List Value) (hs : st = argsL.reverse ++ rest)
    (w1 : (Jvm.Cond.methodLink own i y).before a0 Z = true) (w2 : (Jvm.Cond.static y).before a0 Z = true) (w3 : (Jvm.Cond.initialized y.cls).before a0 Z = true) (w4 : (Jvm.Cond.code y bytes mL rt').before a0 Z = true) (hd : decode bc pc = .ok (.invokestatic i, 3))
    (hm : y.cls ≠ "java/lang/invoke/MethodHandle" ∧ y.cls ≠ "java/lang/invoke/VarHandle") (pd : parseMethodDescriptor y.desc = some ⟨ps, rt'⟩) (hlen : argsL.length = ps.length) (hsz : Ls.length = maxL)
    (D : Does W.l Z y bytes mL rt' rm argsL.toArray h n0 Q') (hf : rm.frames + 1 ≤ R.frames) (wt : Nat) (hwt : (rest.map fun v => v.category).sum = wt) (hl : wt + (mL + 11) + rm.locals ≤ R.locals) (hc : k + rm.cells ≤ R.cells) (hsl : n + rm.slots ≤ R.slots) (q : Nat) (hq : pc + 3 = q)
    (g : ∀ v h', Q' v h' → Ok W R n0 Q h' (k + rm.cells) (n + rm.slots) q Ls (v.toList ++ rest)) : Ok W R n0 Q h k n pc Ls st := fun T locs X e N => by
  subst hq hs
  obtain ⟨v, vm1, ⟨T', L', k', n'⟩, -, X', ⟨Lc, hQ, l1, y1, z1⟩, st'⟩ := Jvm.LawKit.callS X C.1 (y := y) C.2.2.2.2.1 (mvT C.2.1 w1) (mvT C.2.1 w2) (mvT C.2.1 w3) (mvT C.2.1 w4) hm (backOf (W := wt) (R := R) (Q := fun v h L => Q' v h ∧ Fr n0 L) D C.2.1 w4 w3 hf hl) (g := mkF W.m pc Ls.toArray (argsL.reverse ++ rest)) rfl (by rw [C.2.2.2.1, ← hsz]; simp) (argsL := argsL) (rest := rest) (lenOf pd hlen) rfl (by show 2 * 0 + _ ≤ _; omega) (hb C.2.2.1 hd) (fun _ _ => ⟨rfl, e, hc, hsl⟩)
  dsimp only [Pt.U, Pt.locs, Pt.cells, Pt.slots] at X' l1 y1 z1 st' hQ
  subst l1 y1 z1
  obtain ⟨s₂, o, S, r⟩ := own_after (g v _ hQ.1) N hQ.2 X' rfl
  exact ⟨s₂, o, st' _ S, r⟩
theorem Ok.callInit (C : Cx W Z own nm bc maxL rt) {i : Nat} {y : MethodName} {bytes : ByteArray} {mL : Nat} {rm : Room} {ps : List FieldType} {Q' : Option Value → Heap → Prop} {a : Addr} (argsL rest : List Value) (hs : st = argsL.reverse ++ .ref a :: rest) (hy1 : y.name = "<init>")
    (w1 : (Jvm.Cond.methodLink own i y).before a0 Z = true) (w2 : (Jvm.Cond.instanceMethod y).before a0 Z = true) (w3 : (Jvm.Cond.initialized y.cls).before a0 Z = true) (w4 : (Jvm.Cond.code y bytes mL none).before a0 Z = true) (hd : decode bc pc = .ok (.invokespecial i, 3))
    (hm : y.cls ≠ "java/lang/invoke/MethodHandle" ∧ y.cls ≠ "java/lang/invoke/VarHandle") (pd : parseMethodDescriptor y.desc = some ⟨ps, none⟩) (hlen : argsL.length = ps.length) (hsz : Ls.length = maxL)
    (D : Does W.l Z y bytes mL none rm (.ref a :: argsL).toArray h n0 Q') (hf : rm.frames + 1 ≤ R.frames) (wt : Nat) (hwt : (rest.map fun v => v.category).sum = wt) (hl : wt + (mL + 11) + rm.locals ≤ R.locals) (hc : k + rm.cells ≤ R.cells) (hsl : n + rm.slots ≤ R.slots) (q : Nat) (hq : pc + 3 = q)
    (g : ∀ v h', Q' v h' → Ok W R n0 Q h' (k + rm.cells) (n + rm.slots) q Ls (v.toList ++ rest)) : Ok W R n0 Q h k n pc Ls st := fun T locs X e N => by
  subst hq hs
  obtain ⟨v, vm1, ⟨T', L', k', n'⟩, -, X', ⟨Lc, hQ, l1, y1, z1⟩, st'⟩ := X.specialBack C.1 (y := y) hy1 C.2.2.2.2.1 (mvT C.2.1 w1) (mvT C.2.1 w2) (mvT C.2.1 w4) hm (backOf (W := wt) (R := R) (Q := fun v h L => Q' v h ∧ Fr n0 L) D C.2.1 w4 w3 hf hl) (g := mkF W.m pc Ls.toArray (argsL.reverse ++ .ref a :: rest)) rfl (by rw [C.2.2.2.1, ← hsz]; simp) (Steps.refl _) (a := a) (argsL := argsL) (rest := rest) (lenOf pd hlen) rfl (by show 2 * 0 + _ ≤ _; omega) (hb C.2.2.1 hd) (fun _ _ => ⟨rfl, e, hc, hsl⟩)
  dsimp only [Pt.U, Pt.locs, Pt.cells, Pt.slots] at X' l1 y1 z1 st' hQ
  subst l1 y1 z1
  obtain ⟨s₂, o, S, r⟩ := own_after (g v _ hQ.1) N hQ.2 X' rfl
  exact ⟨s₂, o, st'.trans S, r⟩
theorem Ok.callVirtual (C : Cx W Z own nm bc maxL rt) {i : Nat} {y : MethodName} {bytes : ByteArray} {mL : Nat} {rt' : Option FieldType} {rm : Room} {ps : List FieldType} {Q' : Option Value → Heap → Prop} {a : Addr} (argsL rest : List Value) (hs : st = argsL.reverse ++ .ref a :: rest)
    (w1 : (Jvm.Cond.methodLink own i y).before a0 Z = true) (w2 : (Jvm.Cond.declares y).before a0 Z = true) (w5 : (Jvm.Cond.selects y.cls y y).before a0 Z = true) (w6 : (Jvm.Cond.instanceMethod y).before a0 Z = true) (w3 : (Jvm.Cond.initialized y.cls).before a0 Z = true) (w4 : (Jvm.Cond.code y bytes mL rt').before a0 Z = true) (hd : decode bc pc = .ok (.invokevirtual i, 3))
    (hm : y.cls ≠ "java/lang/invoke/MethodHandle" ∧ y.cls ≠ "java/lang/invoke/VarHandle") (pd : parseMethodDescriptor y.desc = some ⟨ps, rt'⟩) (hlen : argsL.length = ps.length) (hsz : Ls.length = maxL) (E : Exa Z h a y.cls)
    (D : Does W.l Z y bytes mL rt' rm (.ref a :: argsL).toArray h n0 Q') (hf : rm.frames + 1 ≤ R.frames) (wt : Nat) (hwt : (rest.map fun v => v.category).sum = wt) (hl : wt + (mL + 11) + rm.locals ≤ R.locals) (hc : k + rm.cells ≤ R.cells) (hsl : n + rm.slots ≤ R.slots) (q : Nat) (hq : pc + 3 = q)
    (g : ∀ v h', Q' v h' → Ok W R n0 Q h' (k + rm.cells) (n + rm.slots) q Ls (v.toList ++ rest)) : Ok W R n0 Q h k n pc Ls st := fun T locs X e N => by
  subst hq hs
  obtain ⟨cq, kq, qa, qb, qc⟩ := isOf (T := T) C.2.1 e E
  obtain ⟨v, vm1, ⟨T', L', k', n'⟩, -, X', ⟨Lc, hQ, l1, y1, z1⟩, st'⟩ := X.virtualBack C.1 (y := y) (z := y) C.2.2.2.2.1 (mvT C.2.1 w1) (mvT C.2.1 w2) (notFace_of_selects (args := #[]) (mvT C.2.1 w5)) (mvT C.2.1 w5) (mvT C.2.1 w6) hm (backOf (W := wt) (R := R) (Q := fun v h L => Q' v h ∧ Fr n0 L) D C.2.1 w4 w3 hf hl) qa qc (g := mkF W.m pc Ls.toArray (argsL.reverse ++ .ref a :: rest)) rfl (by rw [C.2.2.2.1, ← hsz]; simp) (Steps.refl _) (argsL := argsL) (rest := rest) (lenOf pd hlen) rfl (by show 2 * 0 + _ ≤ _; omega) (hb C.2.2.1 hd) (fun _ _ => ⟨rfl, e, hc, hsl⟩)
  dsimp only [Pt.U, Pt.locs, Pt.cells, Pt.slots] at X' l1 y1 z1 st' hQ
  subst l1 y1 z1
  obtain ⟨s₂, o, S, r⟩ := own_after (g v _ hQ.1) N hQ.2 X' rfl
  exact ⟨s₂, o, st'.trans S, r⟩
theorem own_selects {a : Array Value} {s : State} {y0 y : MethodName} (hs : (Jvm.Cond.selects y0.cls y0 y0).before a s = true) (hi : (Jvm.Cond.instanceMethod y).before a s = true) (hp : (Jvm.Cond.privateMethod y).before a s = true) (hc : y.cls = y0.cls) (hm : y.cls ≠ "java/lang/invoke/MethodHandle" ∧ y.cls ≠ "java/lang/invoke/VarHandle") : (Jvm.Cond.selects y.cls y y).before a s = true := by
  obtain ⟨c, r, m, h1, h2, h3, h4, kk, h5, h6⟩ := Cond.selects_spec hs
  obtain ⟨mk, methM, hn, hmm, -, -⟩ := Cond.instanceMethod_spec hi
  have e1 : s.vm.findClass y0.cls = some m.cls := findClass_of_methodNamed h3
  have e2 : s.vm.findClass y.cls = some mk.cls := findClass_of_methodNamed hn
  have e3 : mk.cls = m.cls := by rw [hc, e1] at e2; exact (Option.some.inj e2).symm
  have hf := State.methodFound?_of_named hn hm
  have hsel : selectMethod {} s.vm mk.cls mk = .method mk := selectMethod_private hmm (Cond.privateMethod_at hp mk methM hn hmm)
  have hk : s.vm.classes[mk.cls]? = some kk := by rw [e3]; exact h5
  simp [Cond.before, Cond.holds, Cond.value, e2, hf, hn, hsel, hk, h6]
theorem Ok.callPrivate (C : Cx W Z own nm bc maxL rt) {i : Nat} {y y0 : MethodName} {bytes : ByteArray} {mL : Nat} {rt' : Option FieldType} {rm : Room} {ps : List FieldType} {Q' : Option Value → Heap → Prop} {a : Addr} (argsL rest : List Value) (hs : st = argsL.reverse ++ .ref a :: rest)
    (w1 : (Jvm.Cond.methodLink own i y).before a0 Z = true) (w6 : (Jvm.Cond.instanceMethod y).before a0 Z = true) (w7 : (Jvm.Cond.privateMethod y).before a0 Z = true) (w5 : (Jvm.Cond.selects y0.cls y0 y0).before a0 Z = true) (hcc : y.cls = y0.cls) (w3 : (Jvm.Cond.initialized y.cls).before a0 Z = true) (w4 : (Jvm.Cond.code y bytes mL rt').before a0 Z = true) (hd : decode bc pc = .ok (.invokevirtual i, 3))
    (hm : y.cls ≠ "java/lang/invoke/MethodHandle" ∧ y.cls ≠ "java/lang/invoke/VarHandle") (pd : parseMethodDescriptor y.desc = some ⟨ps, rt'⟩) (hlen : argsL.length = ps.length) (hsz : Ls.length = maxL) (E : Exa Z h a y.cls)
    (D : Does W.l Z y bytes mL rt' rm (.ref a :: argsL).toArray h n0 Q') (hf : rm.frames + 1 ≤ R.frames) (wt : Nat) (hwt : (rest.map fun v => v.category).sum = wt) (hl : wt + (mL + 11) + rm.locals ≤ R.locals) (hc : k + rm.cells ≤ R.cells) (hsl : n + rm.slots ≤ R.slots) (q : Nat) (hq : pc + 3 = q)
    (g : ∀ v h', Q' v h' → Ok W R n0 Q h' (k + rm.cells) (n + rm.slots) q Ls (v.toList ++ rest)) : Ok W R n0 Q h k n pc Ls st := fun T locs X e N => by
  subst hq hs
  obtain ⟨cq, q1, q2⟩ := E.cell
  obtain ⟨v, vm1, ⟨T', L', k', n'⟩, -, X', ⟨Lc, hQ, l1, y1, z1⟩, st'⟩ := X.privateBack C.1 (y := y) C.2.2.2.2.1 (mvT C.2.1 w1) (mvT C.2.1 w6) (mvT C.2.1 (own_selects w5 w6 w7 hcc hm)) (Cond.privateMethod_at (mvP C.2.1 w7 (args := #[]))) (mvT C.2.1 w4) hm (backOf (W := wt) (R := R) (Q := fun v h L => Q' v h ∧ Fr n0 L) D C.2.1 w4 w3 hf hl) (g := mkF W.m pc Ls.toArray (argsL.reverse ++ .ref a :: rest)) rfl (by rw [C.2.2.2.1, ← hsz]; simp) (Steps.refl _) (a := a) (by rw [e]; exact q1) q2 (argsL := argsL) (rest := rest) (lenOf pd hlen) rfl (by show 2 * 0 + _ ≤ _; omega) (hb C.2.2.1 hd) (fun _ _ => ⟨rfl, e, hc, hsl⟩)
  dsimp only [Pt.U, Pt.locs, Pt.cells, Pt.slots] at X' l1 y1 z1 st' hQ
  subst l1 y1 z1
  obtain ⟨s₂, o, S, r⟩ := own_after (g v _ hQ.1) N hQ.2 X' rfl
  exact ⟨s₂, o, st'.trans S, r⟩
/-! numbers -/
theorem own_add {t x y : Int32} (e : t = x + y) (h1 : -2147483648 ≤ x.toInt + y.toInt) (h2 : x.toInt + y.toInt < 2147483648) : t.toInt = x.toInt + y.toInt := by
  have := c_iadd x y; have := rng32 (x + y); subst e; omega
theorem own_sub {t x y : Int32} (e : t = x - y) (h1 : -2147483648 ≤ x.toInt - y.toInt) (h2 : x.toInt - y.toInt < 2147483648) : t.toInt = x.toInt - y.toInt := by
  have := c_isub x y; have := rng32 (x - y); subst e; omega
theorem own_lsub {t x y : Int64} (e : t = x - y) (h1 : -9223372036854775808 ≤ x.toInt - y.toInt) (h2 : x.toInt - y.toInt < 9223372036854775808) : t.toInt = x.toInt - y.toInt := by
  have := c_lsub x y; have := rng64 (x - y); subst e; omega
theorem own_ladd {t x y : Int64} (e : t = x + y) (h1 : -9223372036854775808 ≤ x.toInt + y.toInt) (h2 : x.toInt + y.toInt < 9223372036854775808) : t.toInt = x.toInt + y.toInt := by
  have := c_ladd x y; have := rng64 (x + y); subst e; omega
theorem own_one : (1 &&& 1 : Int32) = 1 := rfl
theorem own_zero : (0 &&& 1 : Int32) = 0 := rfl
end Own
theorem own_w {Z : State} {a0 : Array Value} (hw : ∀ d ∈ tables_1, d.before a0 Z = true) (i : Nat) {d : Jvm.Cond} (e : tables_1[i]? = some d) : d.before a0 Z = true := hw d (List.mem_of_getElem? e)
abbrev own_ns (c : Int) : Prop := (65 ≤ c ∧ c ≤ 90) ∨ (95 ≤ c ∧ c ≤ 95) ∨ (97 ≤ c ∧ c ≤ 122) ∨ (192 ≤ c ∧ c ≤ 214) ∨ (216 ≤ c ∧ c ≤ 246) ∨ (248 ≤ c ∧ c ≤ 767) ∨ (880 ≤ c ∧ c ≤ 893) ∨ (895 ≤ c ∧ c ≤ 8191) ∨ (8204 ≤ c ∧ c ≤ 8205) ∨ (8304 ≤ c ∧ c ≤ 8591) ∨ (11264 ≤ c ∧ c ≤ 12271) ∨ (12289 ≤ c ∧ c ≤ 55295) ∨ (63744 ≤ c ∧ c ≤ 64975) ∨ (65008 ≤ c ∧ c ≤ 65533) ∨ (65536 ≤ c ∧ c ≤ 983039)
abbrev own_xc (c : Int) : Prop := (c ≤ 64) ∨ (91 ≤ c ∧ c ≤ 94) ∨ (96 ≤ c ∧ c ≤ 96) ∨ (123 ≤ c ∧ c ≤ 191) ∨ (215 ≤ c ∧ c ≤ 215) ∨ (247 ≤ c ∧ c ≤ 247) ∨ (768 ≤ c ∧ c ≤ 879) ∨ (894 ≤ c ∧ c ≤ 894) ∨ (8192 ≤ c ∧ c ≤ 8203) ∨ (8206 ≤ c ∧ c ≤ 8303) ∨ (8592 ≤ c ∧ c ≤ 11263) ∨ (12272 ≤ c ∧ c ≤ 12288) ∨ (55296 ≤ c ∧ c ≤ 63743) ∨ (64976 ≤ c ∧ c ≤ 65007) ∨ (65534 ≤ c ∧ c ≤ 65535) ∨ (983040 ≤ c)
theorem own_both (c : Int) : own_ns c ∧ ¬ own_xc c ∨ ¬ own_ns c ∧ own_xc c := by
  simp only [own_ns, own_xc]
  by_cases h0 : c < 65
  · omega
  by_cases h1 : c < 91
  · omega
  by_cases h2 : c < 95
  · omega
  by_cases h3 : c < 96
  · omega
  by_cases h4 : c < 97
  · omega
  by_cases h5 : c < 123
  · omega
  by_cases h6 : c < 192
  · omega
  by_cases h7 : c < 215
  · omega
  by_cases h8 : c < 216
  · omega
  by_cases h9 : c < 247
  · omega
  by_cases h10 : c < 248
  · omega
  by_cases h11 : c < 768
  · omega
  by_cases h12 : c < 880
  · omega
  by_cases h13 : c < 894
  · omega
  by_cases h14 : c < 895
  · omega
  by_cases h15 : c < 8192
  · omega
  by_cases h16 : c < 8204
  · omega
  by_cases h17 : c < 8206
  · omega
  by_cases h18 : c < 8304
  · omega
  by_cases h19 : c < 8592
  · omega
  by_cases h20 : c < 11264
  · omega
  by_cases h21 : c < 12272
  · omega
  by_cases h22 : c < 12289
  · omega
  by_cases h23 : c < 55296
  · omega
  by_cases h24 : c < 63744
  · omega
  by_cases h25 : c < 64976
  · omega
  by_cases h26 : c < 65008
  · omega
  by_cases h27 : c < 65534
  · omega
  by_cases h28 : c < 65536
  · omega
  by_cases h29 : c < 983040
  · omega
  omega
def own_lo : List Int32 := [65, 95, 97, 192, 216, 248, 880, 895, 8204, 8304, 11264, 12289, 63744, 65008, 65536]
def own_hi : List Int32 := [90, 95, 122, 214, 246, 767, 893, 8191, 8205, 8591, 12271, 55295, 64975, 65533, 983039]
theorem own_edge : ∀ i : Nat, i < 15 → ∃ a b : Int32, (own_lo.map Value.int)[i]? = some (.int a) ∧ (own_hi.map Value.int)[i]? = some (.int b) ∧ own_ns a.toInt ∧ ¬ own_ns (a - 1).toInt ∧ own_ns b.toInt ∧ ¬ own_ns (b + 1).toInt := by
  intro i hi
  match i, hi with
  | 0, _ => exact ⟨65, 90, rfl, rfl, by decide, by decide, by decide, by decide⟩
  | 1, _ => exact ⟨95, 95, rfl, rfl, by decide, by decide, by decide, by decide⟩
  | 2, _ => exact ⟨97, 122, rfl, rfl, by decide, by decide, by decide, by decide⟩
  | 3, _ => exact ⟨192, 214, rfl, rfl, by decide, by decide, by decide, by decide⟩
  | 4, _ => exact ⟨216, 246, rfl, rfl, by decide, by decide, by decide, by decide⟩
  | 5, _ => exact ⟨248, 767, rfl, rfl, by decide, by decide, by decide, by decide⟩
  | 6, _ => exact ⟨880, 893, rfl, rfl, by decide, by decide, by decide, by decide⟩
  | 7, _ => exact ⟨895, 8191, rfl, rfl, by decide, by decide, by decide, by decide⟩
  | 8, _ => exact ⟨8204, 8205, rfl, rfl, by decide, by decide, by decide, by decide⟩
  | 9, _ => exact ⟨8304, 8591, rfl, rfl, by decide, by decide, by decide, by decide⟩
  | 10, _ => exact ⟨11264, 12271, rfl, rfl, by decide, by decide, by decide, by decide⟩
  | 11, _ => exact ⟨12289, 55295, rfl, rfl, by decide, by decide, by decide, by decide⟩
  | 12, _ => exact ⟨63744, 64975, rfl, rfl, by decide, by decide, by decide, by decide⟩
  | 13, _ => exact ⟨65008, 65533, rfl, rfl, by decide, by decide, by decide, by decide⟩
  | 14, _ => exact ⟨65536, 983039, rfl, rfl, by decide, by decide, by decide, by decide⟩

theorem d1_0 : decode prog_129_method_5_code 0 = .ok (.iload_n 0, 1) := by decide +kernel
theorem d1_1 : decode prog_129_method_5_code 1 = .ok (.bipush 65, 2) := by decide +kernel
theorem d1_3 : decode prog_129_method_5_code 3 = .ok (.if_icmp .lt 9, 3) := by decide +kernel
theorem d1_6 : decode prog_129_method_5_code 6 = .ok (.iload_n 0, 1) := by decide +kernel
theorem d1_7 : decode prog_129_method_5_code 7 = .ok (.bipush 90, 2) := by decide +kernel
theorem d1_9 : decode prog_129_method_5_code 9 = .ok (.if_icmp .le 182, 3) := by decide +kernel
theorem d1_12 : decode prog_129_method_5_code 12 = .ok (.iload_n 0, 1) := by decide +kernel
theorem d1_13 : decode prog_129_method_5_code 13 = .ok (.bipush 95, 2) := by decide +kernel
theorem d1_15 : decode prog_129_method_5_code 15 = .ok (.if_icmp .eq 176, 3) := by decide +kernel
theorem d1_18 : decode prog_129_method_5_code 18 = .ok (.iload_n 0, 1) := by decide +kernel
theorem d1_19 : decode prog_129_method_5_code 19 = .ok (.bipush 97, 2) := by decide +kernel
theorem d1_21 : decode prog_129_method_5_code 21 = .ok (.if_icmp .lt 9, 3) := by decide +kernel
theorem d1_24 : decode prog_129_method_5_code 24 = .ok (.iload_n 0, 1) := by decide +kernel
theorem d1_25 : decode prog_129_method_5_code 25 = .ok (.bipush 122, 2) := by decide +kernel
theorem d1_27 : decode prog_129_method_5_code 27 = .ok (.if_icmp .le 164, 3) := by decide +kernel
theorem d1_30 : decode prog_129_method_5_code 30 = .ok (.iload_n 0, 1) := by decide +kernel
theorem d1_31 : decode prog_129_method_5_code 31 = .ok (.sipush 192, 3) := by decide +kernel
theorem d1_34 : decode prog_129_method_5_code 34 = .ok (.if_icmp .lt 10, 3) := by decide +kernel
theorem d1_37 : decode prog_129_method_5_code 37 = .ok (.iload_n 0, 1) := by decide +kernel
theorem d1_38 : decode prog_129_method_5_code 38 = .ok (.sipush 214, 3) := by decide +kernel
theorem d1_41 : decode prog_129_method_5_code 41 = .ok (.if_icmp .le 150, 3) := by decide +kernel
theorem d1_44 : decode prog_129_method_5_code 44 = .ok (.iload_n 0, 1) := by decide +kernel
theorem d1_45 : decode prog_129_method_5_code 45 = .ok (.sipush 216, 3) := by decide +kernel
theorem d1_48 : decode prog_129_method_5_code 48 = .ok (.if_icmp .lt 10, 3) := by decide +kernel
theorem d1_51 : decode prog_129_method_5_code 51 = .ok (.iload_n 0, 1) := by decide +kernel
theorem d1_52 : decode prog_129_method_5_code 52 = .ok (.sipush 246, 3) := by decide +kernel
theorem d1_55 : decode prog_129_method_5_code 55 = .ok (.if_icmp .le 136, 3) := by decide +kernel
theorem d1_58 : decode prog_129_method_5_code 58 = .ok (.iload_n 0, 1) := by decide +kernel
theorem d1_59 : decode prog_129_method_5_code 59 = .ok (.sipush 248, 3) := by decide +kernel
theorem d1_62 : decode prog_129_method_5_code 62 = .ok (.if_icmp .lt 10, 3) := by decide +kernel
theorem d1_65 : decode prog_129_method_5_code 65 = .ok (.iload_n 0, 1) := by decide +kernel
theorem d1_66 : decode prog_129_method_5_code 66 = .ok (.sipush 767, 3) := by decide +kernel
theorem d1_69 : decode prog_129_method_5_code 69 = .ok (.if_icmp .le 122, 3) := by decide +kernel
theorem d1_72 : decode prog_129_method_5_code 72 = .ok (.iload_n 0, 1) := by decide +kernel
theorem d1_73 : decode prog_129_method_5_code 73 = .ok (.sipush 880, 3) := by decide +kernel
theorem d1_76 : decode prog_129_method_5_code 76 = .ok (.if_icmp .lt 10, 3) := by decide +kernel
theorem d1_79 : decode prog_129_method_5_code 79 = .ok (.iload_n 0, 1) := by decide +kernel
theorem d1_80 : decode prog_129_method_5_code 80 = .ok (.sipush 893, 3) := by decide +kernel
theorem d1_83 : decode prog_129_method_5_code 83 = .ok (.if_icmp .le 108, 3) := by decide +kernel
theorem d1_86 : decode prog_129_method_5_code 86 = .ok (.iload_n 0, 1) := by decide +kernel
theorem d1_87 : decode prog_129_method_5_code 87 = .ok (.sipush 895, 3) := by decide +kernel
theorem d1_90 : decode prog_129_method_5_code 90 = .ok (.if_icmp .lt 10, 3) := by decide +kernel
theorem d1_93 : decode prog_129_method_5_code 93 = .ok (.iload_n 0, 1) := by decide +kernel
theorem d1_94 : decode prog_129_method_5_code 94 = .ok (.sipush 8191, 3) := by decide +kernel
theorem d1_97 : decode prog_129_method_5_code 97 = .ok (.if_icmp .le 94, 3) := by decide +kernel
theorem d1_100 : decode prog_129_method_5_code 100 = .ok (.iload_n 0, 1) := by decide +kernel
theorem d1_101 : decode prog_129_method_5_code 101 = .ok (.sipush 8204, 3) := by decide +kernel
theorem d1_104 : decode prog_129_method_5_code 104 = .ok (.if_icmp .lt 10, 3) := by decide +kernel
theorem d1_107 : decode prog_129_method_5_code 107 = .ok (.iload_n 0, 1) := by decide +kernel
theorem d1_108 : decode prog_129_method_5_code 108 = .ok (.sipush 8205, 3) := by decide +kernel
theorem d1_111 : decode prog_129_method_5_code 111 = .ok (.if_icmp .le 80, 3) := by decide +kernel
theorem d1_114 : decode prog_129_method_5_code 114 = .ok (.iload_n 0, 1) := by decide +kernel
theorem d1_115 : decode prog_129_method_5_code 115 = .ok (.sipush 8304, 3) := by decide +kernel
theorem d1_118 : decode prog_129_method_5_code 118 = .ok (.if_icmp .lt 10, 3) := by decide +kernel
theorem d1_121 : decode prog_129_method_5_code 121 = .ok (.iload_n 0, 1) := by decide +kernel
theorem d1_122 : decode prog_129_method_5_code 122 = .ok (.sipush 8591, 3) := by decide +kernel
theorem d1_125 : decode prog_129_method_5_code 125 = .ok (.if_icmp .le 66, 3) := by decide +kernel
theorem d1_128 : decode prog_129_method_5_code 128 = .ok (.iload_n 0, 1) := by decide +kernel
theorem d1_129 : decode prog_129_method_5_code 129 = .ok (.sipush 11264, 3) := by decide +kernel
theorem d1_132 : decode prog_129_method_5_code 132 = .ok (.if_icmp .lt 10, 3) := by decide +kernel
theorem d1_135 : decode prog_129_method_5_code 135 = .ok (.iload_n 0, 1) := by decide +kernel
theorem d1_136 : decode prog_129_method_5_code 136 = .ok (.sipush 12271, 3) := by decide +kernel
theorem d1_139 : decode prog_129_method_5_code 139 = .ok (.if_icmp .le 52, 3) := by decide +kernel
theorem d1_142 : decode prog_129_method_5_code 142 = .ok (.iload_n 0, 1) := by decide +kernel
theorem d1_143 : decode prog_129_method_5_code 143 = .ok (.sipush 12289, 3) := by decide +kernel
theorem d1_146 : decode prog_129_method_5_code 146 = .ok (.if_icmp .lt 9, 3) := by decide +kernel
theorem d1_149 : decode prog_129_method_5_code 149 = .ok (.iload_n 0, 1) := by decide +kernel
theorem d1_150 : decode prog_129_method_5_code 150 = .ok (.ldc 47, 2) := by decide +kernel
theorem d1_152 : decode prog_129_method_5_code 152 = .ok (.if_icmp .le 39, 3) := by decide +kernel
theorem d1_155 : decode prog_129_method_5_code 155 = .ok (.iload_n 0, 1) := by decide +kernel
theorem d1_156 : decode prog_129_method_5_code 156 = .ok (.ldc 48, 2) := by decide +kernel
theorem d1_158 : decode prog_129_method_5_code 158 = .ok (.if_icmp .lt 9, 3) := by decide +kernel
theorem d1_161 : decode prog_129_method_5_code 161 = .ok (.iload_n 0, 1) := by decide +kernel
theorem d1_162 : decode prog_129_method_5_code 162 = .ok (.ldc 49, 2) := by decide +kernel
theorem d1_164 : decode prog_129_method_5_code 164 = .ok (.if_icmp .le 27, 3) := by decide +kernel
theorem d1_167 : decode prog_129_method_5_code 167 = .ok (.iload_n 0, 1) := by decide +kernel
theorem d1_168 : decode prog_129_method_5_code 168 = .ok (.ldc 50, 2) := by decide +kernel
theorem d1_170 : decode prog_129_method_5_code 170 = .ok (.if_icmp .lt 9, 3) := by decide +kernel
theorem d1_173 : decode prog_129_method_5_code 173 = .ok (.iload_n 0, 1) := by decide +kernel
theorem d1_174 : decode prog_129_method_5_code 174 = .ok (.ldc 51, 2) := by decide +kernel
theorem d1_176 : decode prog_129_method_5_code 176 = .ok (.if_icmp .le 15, 3) := by decide +kernel
theorem d1_179 : decode prog_129_method_5_code 179 = .ok (.iload_n 0, 1) := by decide +kernel
theorem d1_180 : decode prog_129_method_5_code 180 = .ok (.ldc 52, 2) := by decide +kernel
theorem d1_182 : decode prog_129_method_5_code 182 = .ok (.if_icmp .lt 13, 3) := by decide +kernel
theorem d1_185 : decode prog_129_method_5_code 185 = .ok (.iload_n 0, 1) := by decide +kernel
theorem d1_186 : decode prog_129_method_5_code 186 = .ok (.ldc 53, 2) := by decide +kernel
theorem d1_188 : decode prog_129_method_5_code 188 = .ok (.if_icmp .gt 7, 3) := by decide +kernel
theorem d1_191 : decode prog_129_method_5_code 191 = .ok (.iconst 1, 1) := by decide +kernel
theorem d1_192 : decode prog_129_method_5_code 192 = .ok (.goto 4, 3) := by decide +kernel
theorem d1_195 : decode prog_129_method_5_code 195 = .ok (.iconst 0, 1) := by decide +kernel
theorem d1_196 : decode prog_129_method_5_code 196 = .ok (.ireturn, 1) := by decide +kernel
theorem pn_1 : plainFor (⟨"com/example/twigwright/twigwright/XmlName", "isNameStart", "(I)Z"⟩ : MethodName) = true := by first | exact plainFor_of_name (by first | (simp [plainName, overriddenIn]; done) | decide +kernel) | decide +kernel
set_option maxRecDepth 65536 in
set_option maxHeartbeats 40000000 in
theorem rm_1 (l : Launch) (Z : State) (a0 : Array Value) (hw : ∀ d ∈ tables_1, d.before a0 Z = true) (p0 : Int32) (h : Heap) (n0 : Nat) (Z0 : n0 ≤ h.size)  :
    Does l Z (⟨"com/example/twigwright/twigwright/XmlName", "isNameStart", "(I)Z"⟩ : MethodName) prog_129_method_5_code 1 (some .boolean) ({ frames := 0, cells := 0, slots := 0, locals := 0 } : Room) #[(.int p0)] h n0 (fun v h' => h = h' ∧ ∃ r : Int32, v = some (.int r) ∧ (r.toInt = 1 ∧ own_ns p0.toInt ∨ r.toInt = 0 ∧ ¬ own_ns p0.toInt)) := by
  refine Does.of_body pn_1 [.val (.int p0)] (fun m => by first | (simp [entryFrame, mkF, argsToLocals, Value.category]; done) | rfl) ?_
  intro W hWl cx
  subst hWl
  have cx : Cx W Z "com/example/twigwright/twigwright/XmlName" "isNameStart" prog_129_method_5_code 1 (some .boolean) := cx
  have lz1 : ((1 : Int32) &&& 1).toInt = 1 := rfl
  have lz0 : ((0 : Int32) &&& 1).toInt = 0 := rfl
  have l32_65 : (65 : Int32).toInt = 65 := rfl
  have l32_90 : (90 : Int32).toInt = 90 := rfl
  have l32_95 : (95 : Int32).toInt = 95 := rfl
  have l32_97 : (97 : Int32).toInt = 97 := rfl
  have l32_122 : (122 : Int32).toInt = 122 := rfl
  have l32_192 : (192 : Int32).toInt = 192 := rfl
  have l32_214 : (214 : Int32).toInt = 214 := rfl
  have l32_216 : (216 : Int32).toInt = 216 := rfl
  have l32_246 : (246 : Int32).toInt = 246 := rfl
  have l32_248 : (248 : Int32).toInt = 248 := rfl
  have l32_767 : (767 : Int32).toInt = 767 := rfl
  have l32_880 : (880 : Int32).toInt = 880 := rfl
  have l32_893 : (893 : Int32).toInt = 893 := rfl
  have l32_895 : (895 : Int32).toInt = 895 := rfl
  have l32_8191 : (8191 : Int32).toInt = 8191 := rfl
  have l32_8204 : (8204 : Int32).toInt = 8204 := rfl
  have l32_8205 : (8205 : Int32).toInt = 8205 := rfl
  have l32_8304 : (8304 : Int32).toInt = 8304 := rfl
  have l32_8591 : (8591 : Int32).toInt = 8591 := rfl
  have l32_11264 : (11264 : Int32).toInt = 11264 := rfl
  have l32_12271 : (12271 : Int32).toInt = 12271 := rfl
  have l32_12289 : (12289 : Int32).toInt = 12289 := rfl
  have l32_55295 : (55295 : Int32).toInt = 55295 := rfl
  have l32_63744 : (63744 : Int32).toInt = 63744 := rfl
  have l32_64975 : (64975 : Int32).toInt = 64975 := rfl
  have l32_65008 : (65008 : Int32).toInt = 65008 := rfl
  have l32_65533 : (65533 : Int32).toInt = 65533 := rfl
  have l32_65536 : (65536 : Int32).toInt = 65536 := rfl
  have l32_983039 : (983039 : Int32).toInt = 983039 := rfl
  have l32_1 : (1 : Int32).toInt = 1 := rfl
  have l32_0 : (0 : Int32).toInt = 0 := rfl
  have Jy : own_ns p0.toInt → Ok W ({ frames := 0, cells := 0, slots := 0, locals := 0 } : Room) n0 (fun v h' => h = h' ∧ ∃ r : Int32, v = some (.int r) ∧ (r.toInt = 1 ∧ own_ns p0.toInt ∨ r.toInt = 0 ∧ ¬ own_ns p0.toInt)) h 0 0 191 [.val (.int p0)] [] := by
    intro j
    refine Ok.iconst cx d1_191 192 rfl (1 : Int32) rfl ?_
    refine Ok.goto cx d1_192 196 (by decide) ?_
    exact Ok.zreturn cx d1_196 (by decide) (by decide) ⟨rfl, _, rfl, (by first | exact Or.inl ⟨rfl, j⟩ | exact Or.inr ⟨rfl, j⟩)⟩
  have Jn : ¬ own_ns p0.toInt → Ok W ({ frames := 0, cells := 0, slots := 0, locals := 0 } : Room) n0 (fun v h' => h = h' ∧ ∃ r : Int32, v = some (.int r) ∧ (r.toInt = 1 ∧ own_ns p0.toInt ∨ r.toInt = 0 ∧ ¬ own_ns p0.toInt)) h 0 0 195 [.val (.int p0)] [] := by
    intro j
    refine Ok.iconst cx d1_195 196 rfl (0 : Int32) rfl ?_
    exact Ok.zreturn cx d1_196 (by decide) (by decide) ⟨rfl, _, rfl, (by first | exact Or.inl ⟨rfl, j⟩ | exact Or.inr ⟨rfl, j⟩)⟩
  have J179 : (own_ns p0.toInt ↔ ((65536 ≤ p0.toInt ∧ p0.toInt ≤ 983039))) → Ok W ({ frames := 0, cells := 0, slots := 0, locals := 0 } : Room) n0 (fun v h' => h = h' ∧ ∃ r : Int32, v = some (.int r) ∧ (r.toInt = 1 ∧ own_ns p0.toInt ∨ r.toInt = 0 ∧ ¬ own_ns p0.toInt)) h 0 0 179 [.val (.int p0)] [] := by
    intro j179
    refine Ok.iloadN cx d1_179 rfl 180 rfl ?_
    refine Ok.ldc cx (own_w hw 15 rfl) d1_180 182 rfl ?_
    refine Ok.icmp_lt cx d1_182 195 185 (by decide) rfl (fun c182 => ?_) (fun c182 => ?_)
    · skip
      exact Jn (fun z => by have z := j179.mp z; omega)
    · skip
      refine Ok.iloadN cx d1_185 rfl 186 rfl ?_
      refine Ok.ldc cx (own_w hw 26 rfl) d1_186 188 rfl ?_
      refine Ok.icmp_gt cx d1_188 195 191 (by decide) rfl (fun c188 => ?_) (fun c188 => ?_)
      · skip
        exact Jn (fun z => by have z := j179.mp z; omega)
      · skip
        exact Jy (j179.mpr (by omega))
  have J167 : (own_ns p0.toInt ↔ ((65008 ≤ p0.toInt ∧ p0.toInt ≤ 65533) ∨ (65536 ≤ p0.toInt ∧ p0.toInt ≤ 983039))) → Ok W ({ frames := 0, cells := 0, slots := 0, locals := 0 } : Room) n0 (fun v h' => h = h' ∧ ∃ r : Int32, v = some (.int r) ∧ (r.toInt = 1 ∧ own_ns p0.toInt ∨ r.toInt = 0 ∧ ¬ own_ns p0.toInt)) h 0 0 167 [.val (.int p0)] [] := by
    intro j167
    refine Ok.iloadN cx d1_167 rfl 168 rfl ?_
    refine Ok.ldc cx (own_w hw 14 rfl) d1_168 170 rfl ?_
    refine Ok.icmp_lt cx d1_170 179 173 (by decide) rfl (fun c170 => ?_) (fun c170 => ?_)
    · skip
      exact J179 (j167.trans (or_iff_right (by omega)))
    · skip
      refine Ok.iloadN cx d1_173 rfl 174 rfl ?_
      refine Ok.ldc cx (own_w hw 25 rfl) d1_174 176 rfl ?_
      refine Ok.icmp_le cx d1_176 191 179 (by decide) rfl (fun c176 => ?_) (fun c176 => ?_)
      · skip
        exact Jy (j167.mpr (by omega))
      · skip
        exact J179 (j167.trans (or_iff_right (by omega)))
  have J155 : (own_ns p0.toInt ↔ ((63744 ≤ p0.toInt ∧ p0.toInt ≤ 64975) ∨ (65008 ≤ p0.toInt ∧ p0.toInt ≤ 65533) ∨ (65536 ≤ p0.toInt ∧ p0.toInt ≤ 983039))) → Ok W ({ frames := 0, cells := 0, slots := 0, locals := 0 } : Room) n0 (fun v h' => h = h' ∧ ∃ r : Int32, v = some (.int r) ∧ (r.toInt = 1 ∧ own_ns p0.toInt ∨ r.toInt = 0 ∧ ¬ own_ns p0.toInt)) h 0 0 155 [.val (.int p0)] [] := by
    intro j155
    refine Ok.iloadN cx d1_155 rfl 156 rfl ?_
    refine Ok.ldc cx (own_w hw 13 rfl) d1_156 158 rfl ?_
    refine Ok.icmp_lt cx d1_158 167 161 (by decide) rfl (fun c158 => ?_) (fun c158 => ?_)
    · skip
      exact J167 (j155.trans (or_iff_right (by omega)))
    · skip
      refine Ok.iloadN cx d1_161 rfl 162 rfl ?_
      refine Ok.ldc cx (own_w hw 24 rfl) d1_162 164 rfl ?_
      refine Ok.icmp_le cx d1_164 191 167 (by decide) rfl (fun c164 => ?_) (fun c164 => ?_)
      · skip
        exact Jy (j155.mpr (by omega))
      · skip
        exact J167 (j155.trans (or_iff_right (by omega)))
  have J142 : (own_ns p0.toInt ↔ ((12289 ≤ p0.toInt ∧ p0.toInt ≤ 55295) ∨ (63744 ≤ p0.toInt ∧ p0.toInt ≤ 64975) ∨ (65008 ≤ p0.toInt ∧ p0.toInt ≤ 65533) ∨ (65536 ≤ p0.toInt ∧ p0.toInt ≤ 983039))) → Ok W ({ frames := 0, cells := 0, slots := 0, locals := 0 } : Room) n0 (fun v h' => h = h' ∧ ∃ r : Int32, v = some (.int r) ∧ (r.toInt = 1 ∧ own_ns p0.toInt ∨ r.toInt = 0 ∧ ¬ own_ns p0.toInt)) h 0 0 142 [.val (.int p0)] [] := by
    intro j142
    refine Ok.iloadN cx d1_142 rfl 143 rfl ?_
    refine Ok.sipush cx d1_143 146 rfl (12289 : Int32) rfl ?_
    refine Ok.icmp_lt cx d1_146 155 149 (by decide) rfl (fun c146 => ?_) (fun c146 => ?_)
    · skip
      exact J155 (j142.trans (or_iff_right (by omega)))
    · skip
      refine Ok.iloadN cx d1_149 rfl 150 rfl ?_
      refine Ok.ldc cx (own_w hw 20 rfl) d1_150 152 rfl ?_
      refine Ok.icmp_le cx d1_152 191 155 (by decide) rfl (fun c152 => ?_) (fun c152 => ?_)
      · skip
        exact Jy (j142.mpr (by omega))
      · skip
        exact J155 (j142.trans (or_iff_right (by omega)))
  have J128 : (own_ns p0.toInt ↔ ((11264 ≤ p0.toInt ∧ p0.toInt ≤ 12271) ∨ (12289 ≤ p0.toInt ∧ p0.toInt ≤ 55295) ∨ (63744 ≤ p0.toInt ∧ p0.toInt ≤ 64975) ∨ (65008 ≤ p0.toInt ∧ p0.toInt ≤ 65533) ∨ (65536 ≤ p0.toInt ∧ p0.toInt ≤ 983039))) → Ok W ({ frames := 0, cells := 0, slots := 0, locals := 0 } : Room) n0 (fun v h' => h = h' ∧ ∃ r : Int32, v = some (.int r) ∧ (r.toInt = 1 ∧ own_ns p0.toInt ∨ r.toInt = 0 ∧ ¬ own_ns p0.toInt)) h 0 0 128 [.val (.int p0)] [] := by
    intro j128
    refine Ok.iloadN cx d1_128 rfl 129 rfl ?_
    refine Ok.sipush cx d1_129 132 rfl (11264 : Int32) rfl ?_
    refine Ok.icmp_lt cx d1_132 142 135 (by decide) rfl (fun c132 => ?_) (fun c132 => ?_)
    · skip
      exact J142 (j128.trans (or_iff_right (by omega)))
    · skip
      refine Ok.iloadN cx d1_135 rfl 136 rfl ?_
      refine Ok.sipush cx d1_136 139 rfl (12271 : Int32) rfl ?_
      refine Ok.icmp_le cx d1_139 191 142 (by decide) rfl (fun c139 => ?_) (fun c139 => ?_)
      · skip
        exact Jy (j128.mpr (by omega))
      · skip
        exact J142 (j128.trans (or_iff_right (by omega)))
  have J114 : (own_ns p0.toInt ↔ ((8304 ≤ p0.toInt ∧ p0.toInt ≤ 8591) ∨ (11264 ≤ p0.toInt ∧ p0.toInt ≤ 12271) ∨ (12289 ≤ p0.toInt ∧ p0.toInt ≤ 55295) ∨ (63744 ≤ p0.toInt ∧ p0.toInt ≤ 64975) ∨ (65008 ≤ p0.toInt ∧ p0.toInt ≤ 65533) ∨ (65536 ≤ p0.toInt ∧ p0.toInt ≤ 983039))) → Ok W ({ frames := 0, cells := 0, slots := 0, locals := 0 } : Room) n0 (fun v h' => h = h' ∧ ∃ r : Int32, v = some (.int r) ∧ (r.toInt = 1 ∧ own_ns p0.toInt ∨ r.toInt = 0 ∧ ¬ own_ns p0.toInt)) h 0 0 114 [.val (.int p0)] [] := by
    intro j114
    refine Ok.iloadN cx d1_114 rfl 115 rfl ?_
    refine Ok.sipush cx d1_115 118 rfl (8304 : Int32) rfl ?_
    refine Ok.icmp_lt cx d1_118 128 121 (by decide) rfl (fun c118 => ?_) (fun c118 => ?_)
    · skip
      exact J128 (j114.trans (or_iff_right (by omega)))
    · skip
      refine Ok.iloadN cx d1_121 rfl 122 rfl ?_
      refine Ok.sipush cx d1_122 125 rfl (8591 : Int32) rfl ?_
      refine Ok.icmp_le cx d1_125 191 128 (by decide) rfl (fun c125 => ?_) (fun c125 => ?_)
      · skip
        exact Jy (j114.mpr (by omega))
      · skip
        exact J128 (j114.trans (or_iff_right (by omega)))
  have J100 : (own_ns p0.toInt ↔ ((8204 ≤ p0.toInt ∧ p0.toInt ≤ 8205) ∨ (8304 ≤ p0.toInt ∧ p0.toInt ≤ 8591) ∨ (11264 ≤ p0.toInt ∧ p0.toInt ≤ 12271) ∨ (12289 ≤ p0.toInt ∧ p0.toInt ≤ 55295) ∨ (63744 ≤ p0.toInt ∧ p0.toInt ≤ 64975) ∨ (65008 ≤ p0.toInt ∧ p0.toInt ≤ 65533) ∨ (65536 ≤ p0.toInt ∧ p0.toInt ≤ 983039))) → Ok W ({ frames := 0, cells := 0, slots := 0, locals := 0 } : Room) n0 (fun v h' => h = h' ∧ ∃ r : Int32, v = some (.int r) ∧ (r.toInt = 1 ∧ own_ns p0.toInt ∨ r.toInt = 0 ∧ ¬ own_ns p0.toInt)) h 0 0 100 [.val (.int p0)] [] := by
    intro j100
    refine Ok.iloadN cx d1_100 rfl 101 rfl ?_
    refine Ok.sipush cx d1_101 104 rfl (8204 : Int32) rfl ?_
    refine Ok.icmp_lt cx d1_104 114 107 (by decide) rfl (fun c104 => ?_) (fun c104 => ?_)
    · skip
      exact J114 (j100.trans (or_iff_right (by omega)))
    · skip
      refine Ok.iloadN cx d1_107 rfl 108 rfl ?_
      refine Ok.sipush cx d1_108 111 rfl (8205 : Int32) rfl ?_
      refine Ok.icmp_le cx d1_111 191 114 (by decide) rfl (fun c111 => ?_) (fun c111 => ?_)
      · skip
        exact Jy (j100.mpr (by omega))
      · skip
        exact J114 (j100.trans (or_iff_right (by omega)))
  have J86 : (own_ns p0.toInt ↔ ((895 ≤ p0.toInt ∧ p0.toInt ≤ 8191) ∨ (8204 ≤ p0.toInt ∧ p0.toInt ≤ 8205) ∨ (8304 ≤ p0.toInt ∧ p0.toInt ≤ 8591) ∨ (11264 ≤ p0.toInt ∧ p0.toInt ≤ 12271) ∨ (12289 ≤ p0.toInt ∧ p0.toInt ≤ 55295) ∨ (63744 ≤ p0.toInt ∧ p0.toInt ≤ 64975) ∨ (65008 ≤ p0.toInt ∧ p0.toInt ≤ 65533) ∨ (65536 ≤ p0.toInt ∧ p0.toInt ≤ 983039))) → Ok W ({ frames := 0, cells := 0, slots := 0, locals := 0 } : Room) n0 (fun v h' => h = h' ∧ ∃ r : Int32, v = some (.int r) ∧ (r.toInt = 1 ∧ own_ns p0.toInt ∨ r.toInt = 0 ∧ ¬ own_ns p0.toInt)) h 0 0 86 [.val (.int p0)] [] := by
    intro j86
    refine Ok.iloadN cx d1_86 rfl 87 rfl ?_
    refine Ok.sipush cx d1_87 90 rfl (895 : Int32) rfl ?_
    refine Ok.icmp_lt cx d1_90 100 93 (by decide) rfl (fun c90 => ?_) (fun c90 => ?_)
    · skip
      exact J100 (j86.trans (or_iff_right (by omega)))
    · skip
      refine Ok.iloadN cx d1_93 rfl 94 rfl ?_
      refine Ok.sipush cx d1_94 97 rfl (8191 : Int32) rfl ?_
      refine Ok.icmp_le cx d1_97 191 100 (by decide) rfl (fun c97 => ?_) (fun c97 => ?_)
      · skip
        exact Jy (j86.mpr (by omega))
      · skip
        exact J100 (j86.trans (or_iff_right (by omega)))
  have J72 : (own_ns p0.toInt ↔ ((880 ≤ p0.toInt ∧ p0.toInt ≤ 893) ∨ (895 ≤ p0.toInt ∧ p0.toInt ≤ 8191) ∨ (8204 ≤ p0.toInt ∧ p0.toInt ≤ 8205) ∨ (8304 ≤ p0.toInt ∧ p0.toInt ≤ 8591) ∨ (11264 ≤ p0.toInt ∧ p0.toInt ≤ 12271) ∨ (12289 ≤ p0.toInt ∧ p0.toInt ≤ 55295) ∨ (63744 ≤ p0.toInt ∧ p0.toInt ≤ 64975) ∨ (65008 ≤ p0.toInt ∧ p0.toInt ≤ 65533) ∨ (65536 ≤ p0.toInt ∧ p0.toInt ≤ 983039))) → Ok W ({ frames := 0, cells := 0, slots := 0, locals := 0 } : Room) n0 (fun v h' => h = h' ∧ ∃ r : Int32, v = some (.int r) ∧ (r.toInt = 1 ∧ own_ns p0.toInt ∨ r.toInt = 0 ∧ ¬ own_ns p0.toInt)) h 0 0 72 [.val (.int p0)] [] := by
    intro j72
    refine Ok.iloadN cx d1_72 rfl 73 rfl ?_
    refine Ok.sipush cx d1_73 76 rfl (880 : Int32) rfl ?_
    refine Ok.icmp_lt cx d1_76 86 79 (by decide) rfl (fun c76 => ?_) (fun c76 => ?_)
    · skip
      exact J86 (j72.trans (or_iff_right (by omega)))
    · skip
      refine Ok.iloadN cx d1_79 rfl 80 rfl ?_
      refine Ok.sipush cx d1_80 83 rfl (893 : Int32) rfl ?_
      refine Ok.icmp_le cx d1_83 191 86 (by decide) rfl (fun c83 => ?_) (fun c83 => ?_)
      · skip
        exact Jy (j72.mpr (by omega))
      · skip
        exact J86 (j72.trans (or_iff_right (by omega)))
  have J58 : (own_ns p0.toInt ↔ ((248 ≤ p0.toInt ∧ p0.toInt ≤ 767) ∨ (880 ≤ p0.toInt ∧ p0.toInt ≤ 893) ∨ (895 ≤ p0.toInt ∧ p0.toInt ≤ 8191) ∨ (8204 ≤ p0.toInt ∧ p0.toInt ≤ 8205) ∨ (8304 ≤ p0.toInt ∧ p0.toInt ≤ 8591) ∨ (11264 ≤ p0.toInt ∧ p0.toInt ≤ 12271) ∨ (12289 ≤ p0.toInt ∧ p0.toInt ≤ 55295) ∨ (63744 ≤ p0.toInt ∧ p0.toInt ≤ 64975) ∨ (65008 ≤ p0.toInt ∧ p0.toInt ≤ 65533) ∨ (65536 ≤ p0.toInt ∧ p0.toInt ≤ 983039))) → Ok W ({ frames := 0, cells := 0, slots := 0, locals := 0 } : Room) n0 (fun v h' => h = h' ∧ ∃ r : Int32, v = some (.int r) ∧ (r.toInt = 1 ∧ own_ns p0.toInt ∨ r.toInt = 0 ∧ ¬ own_ns p0.toInt)) h 0 0 58 [.val (.int p0)] [] := by
    intro j58
    refine Ok.iloadN cx d1_58 rfl 59 rfl ?_
    refine Ok.sipush cx d1_59 62 rfl (248 : Int32) rfl ?_
    refine Ok.icmp_lt cx d1_62 72 65 (by decide) rfl (fun c62 => ?_) (fun c62 => ?_)
    · skip
      exact J72 (j58.trans (or_iff_right (by omega)))
    · skip
      refine Ok.iloadN cx d1_65 rfl 66 rfl ?_
      refine Ok.sipush cx d1_66 69 rfl (767 : Int32) rfl ?_
      refine Ok.icmp_le cx d1_69 191 72 (by decide) rfl (fun c69 => ?_) (fun c69 => ?_)
      · skip
        exact Jy (j58.mpr (by omega))
      · skip
        exact J72 (j58.trans (or_iff_right (by omega)))
  have J44 : (own_ns p0.toInt ↔ ((216 ≤ p0.toInt ∧ p0.toInt ≤ 246) ∨ (248 ≤ p0.toInt ∧ p0.toInt ≤ 767) ∨ (880 ≤ p0.toInt ∧ p0.toInt ≤ 893) ∨ (895 ≤ p0.toInt ∧ p0.toInt ≤ 8191) ∨ (8204 ≤ p0.toInt ∧ p0.toInt ≤ 8205) ∨ (8304 ≤ p0.toInt ∧ p0.toInt ≤ 8591) ∨ (11264 ≤ p0.toInt ∧ p0.toInt ≤ 12271) ∨ (12289 ≤ p0.toInt ∧ p0.toInt ≤ 55295) ∨ (63744 ≤ p0.toInt ∧ p0.toInt ≤ 64975) ∨ (65008 ≤ p0.toInt ∧ p0.toInt ≤ 65533) ∨ (65536 ≤ p0.toInt ∧ p0.toInt ≤ 983039))) → Ok W ({ frames := 0, cells := 0, slots := 0, locals := 0 } : Room) n0 (fun v h' => h = h' ∧ ∃ r : Int32, v = some (.int r) ∧ (r.toInt = 1 ∧ own_ns p0.toInt ∨ r.toInt = 0 ∧ ¬ own_ns p0.toInt)) h 0 0 44 [.val (.int p0)] [] := by
    intro j44
    refine Ok.iloadN cx d1_44 rfl 45 rfl ?_
    refine Ok.sipush cx d1_45 48 rfl (216 : Int32) rfl ?_
    refine Ok.icmp_lt cx d1_48 58 51 (by decide) rfl (fun c48 => ?_) (fun c48 => ?_)
    · skip
      exact J58 (j44.trans (or_iff_right (by omega)))
    · skip
      refine Ok.iloadN cx d1_51 rfl 52 rfl ?_
      refine Ok.sipush cx d1_52 55 rfl (246 : Int32) rfl ?_
      refine Ok.icmp_le cx d1_55 191 58 (by decide) rfl (fun c55 => ?_) (fun c55 => ?_)
      · skip
        exact Jy (j44.mpr (by omega))
      · skip
        exact J58 (j44.trans (or_iff_right (by omega)))
  have J30 : (own_ns p0.toInt ↔ ((192 ≤ p0.toInt ∧ p0.toInt ≤ 214) ∨ (216 ≤ p0.toInt ∧ p0.toInt ≤ 246) ∨ (248 ≤ p0.toInt ∧ p0.toInt ≤ 767) ∨ (880 ≤ p0.toInt ∧ p0.toInt ≤ 893) ∨ (895 ≤ p0.toInt ∧ p0.toInt ≤ 8191) ∨ (8204 ≤ p0.toInt ∧ p0.toInt ≤ 8205) ∨ (8304 ≤ p0.toInt ∧ p0.toInt ≤ 8591) ∨ (11264 ≤ p0.toInt ∧ p0.toInt ≤ 12271) ∨ (12289 ≤ p0.toInt ∧ p0.toInt ≤ 55295) ∨ (63744 ≤ p0.toInt ∧ p0.toInt ≤ 64975) ∨ (65008 ≤ p0.toInt ∧ p0.toInt ≤ 65533) ∨ (65536 ≤ p0.toInt ∧ p0.toInt ≤ 983039))) → Ok W ({ frames := 0, cells := 0, slots := 0, locals := 0 } : Room) n0 (fun v h' => h = h' ∧ ∃ r : Int32, v = some (.int r) ∧ (r.toInt = 1 ∧ own_ns p0.toInt ∨ r.toInt = 0 ∧ ¬ own_ns p0.toInt)) h 0 0 30 [.val (.int p0)] [] := by
    intro j30
    refine Ok.iloadN cx d1_30 rfl 31 rfl ?_
    refine Ok.sipush cx d1_31 34 rfl (192 : Int32) rfl ?_
    refine Ok.icmp_lt cx d1_34 44 37 (by decide) rfl (fun c34 => ?_) (fun c34 => ?_)
    · skip
      exact J44 (j30.trans (or_iff_right (by omega)))
    · skip
      refine Ok.iloadN cx d1_37 rfl 38 rfl ?_
      refine Ok.sipush cx d1_38 41 rfl (214 : Int32) rfl ?_
      refine Ok.icmp_le cx d1_41 191 44 (by decide) rfl (fun c41 => ?_) (fun c41 => ?_)
      · skip
        exact Jy (j30.mpr (by omega))
      · skip
        exact J44 (j30.trans (or_iff_right (by omega)))
  have J18 : (own_ns p0.toInt ↔ ((97 ≤ p0.toInt ∧ p0.toInt ≤ 122) ∨ (192 ≤ p0.toInt ∧ p0.toInt ≤ 214) ∨ (216 ≤ p0.toInt ∧ p0.toInt ≤ 246) ∨ (248 ≤ p0.toInt ∧ p0.toInt ≤ 767) ∨ (880 ≤ p0.toInt ∧ p0.toInt ≤ 893) ∨ (895 ≤ p0.toInt ∧ p0.toInt ≤ 8191) ∨ (8204 ≤ p0.toInt ∧ p0.toInt ≤ 8205) ∨ (8304 ≤ p0.toInt ∧ p0.toInt ≤ 8591) ∨ (11264 ≤ p0.toInt ∧ p0.toInt ≤ 12271) ∨ (12289 ≤ p0.toInt ∧ p0.toInt ≤ 55295) ∨ (63744 ≤ p0.toInt ∧ p0.toInt ≤ 64975) ∨ (65008 ≤ p0.toInt ∧ p0.toInt ≤ 65533) ∨ (65536 ≤ p0.toInt ∧ p0.toInt ≤ 983039))) → Ok W ({ frames := 0, cells := 0, slots := 0, locals := 0 } : Room) n0 (fun v h' => h = h' ∧ ∃ r : Int32, v = some (.int r) ∧ (r.toInt = 1 ∧ own_ns p0.toInt ∨ r.toInt = 0 ∧ ¬ own_ns p0.toInt)) h 0 0 18 [.val (.int p0)] [] := by
    intro j18
    refine Ok.iloadN cx d1_18 rfl 19 rfl ?_
    refine Ok.bipush cx d1_19 21 rfl (97 : Int32) rfl ?_
    refine Ok.icmp_lt cx d1_21 30 24 (by decide) rfl (fun c21 => ?_) (fun c21 => ?_)
    · skip
      exact J30 (j18.trans (or_iff_right (by omega)))
    · skip
      refine Ok.iloadN cx d1_24 rfl 25 rfl ?_
      refine Ok.bipush cx d1_25 27 rfl (122 : Int32) rfl ?_
      refine Ok.icmp_le cx d1_27 191 30 (by decide) rfl (fun c27 => ?_) (fun c27 => ?_)
      · skip
        exact Jy (j18.mpr (by omega))
      · skip
        exact J30 (j18.trans (or_iff_right (by omega)))
  have J12 : (own_ns p0.toInt ↔ ((95 ≤ p0.toInt ∧ p0.toInt ≤ 95) ∨ (97 ≤ p0.toInt ∧ p0.toInt ≤ 122) ∨ (192 ≤ p0.toInt ∧ p0.toInt ≤ 214) ∨ (216 ≤ p0.toInt ∧ p0.toInt ≤ 246) ∨ (248 ≤ p0.toInt ∧ p0.toInt ≤ 767) ∨ (880 ≤ p0.toInt ∧ p0.toInt ≤ 893) ∨ (895 ≤ p0.toInt ∧ p0.toInt ≤ 8191) ∨ (8204 ≤ p0.toInt ∧ p0.toInt ≤ 8205) ∨ (8304 ≤ p0.toInt ∧ p0.toInt ≤ 8591) ∨ (11264 ≤ p0.toInt ∧ p0.toInt ≤ 12271) ∨ (12289 ≤ p0.toInt ∧ p0.toInt ≤ 55295) ∨ (63744 ≤ p0.toInt ∧ p0.toInt ≤ 64975) ∨ (65008 ≤ p0.toInt ∧ p0.toInt ≤ 65533) ∨ (65536 ≤ p0.toInt ∧ p0.toInt ≤ 983039))) → Ok W ({ frames := 0, cells := 0, slots := 0, locals := 0 } : Room) n0 (fun v h' => h = h' ∧ ∃ r : Int32, v = some (.int r) ∧ (r.toInt = 1 ∧ own_ns p0.toInt ∨ r.toInt = 0 ∧ ¬ own_ns p0.toInt)) h 0 0 12 [.val (.int p0)] [] := by
    intro j12
    refine Ok.iloadN cx d1_12 rfl 13 rfl ?_
    refine Ok.bipush cx d1_13 15 rfl (95 : Int32) rfl ?_
    refine Ok.icmp_eq cx d1_15 191 18 (by decide) rfl (fun c15 => ?_) (fun c15 => ?_)
    · skip
      exact Jy (j12.mpr (by omega))
    · skip
      exact J18 (j12.trans (or_iff_right (by omega)))
  have j0 : own_ns p0.toInt ↔ ((65 ≤ p0.toInt ∧ p0.toInt ≤ 90) ∨ (95 ≤ p0.toInt ∧ p0.toInt ≤ 95) ∨ (97 ≤ p0.toInt ∧ p0.toInt ≤ 122) ∨ (192 ≤ p0.toInt ∧ p0.toInt ≤ 214) ∨ (216 ≤ p0.toInt ∧ p0.toInt ≤ 246) ∨ (248 ≤ p0.toInt ∧ p0.toInt ≤ 767) ∨ (880 ≤ p0.toInt ∧ p0.toInt ≤ 893) ∨ (895 ≤ p0.toInt ∧ p0.toInt ≤ 8191) ∨ (8204 ≤ p0.toInt ∧ p0.toInt ≤ 8205) ∨ (8304 ≤ p0.toInt ∧ p0.toInt ≤ 8591) ∨ (11264 ≤ p0.toInt ∧ p0.toInt ≤ 12271) ∨ (12289 ≤ p0.toInt ∧ p0.toInt ≤ 55295) ∨ (63744 ≤ p0.toInt ∧ p0.toInt ≤ 64975) ∨ (65008 ≤ p0.toInt ∧ p0.toInt ≤ 65533) ∨ (65536 ≤ p0.toInt ∧ p0.toInt ≤ 983039)) := Iff.rfl
  refine Ok.iloadN cx d1_0 rfl 1 rfl ?_
  refine Ok.bipush cx d1_1 3 rfl (65 : Int32) rfl ?_
  refine Ok.icmp_lt cx d1_3 12 6 (by decide) rfl (fun c3 => ?_) (fun c3 => ?_)
  · skip
    exact J12 (j0.trans (or_iff_right (by omega)))
  · skip
    refine Ok.iloadN cx d1_6 rfl 7 rfl ?_
    refine Ok.bipush cx d1_7 9 rfl (90 : Int32) rfl ?_
    refine Ok.icmp_le cx d1_9 191 12 (by decide) rfl (fun c9 => ?_) (fun c9 => ?_)
    · skip
      exact Jy (j0.mpr (by omega))
    · skip
      exact J12 (j0.trans (or_iff_right (by omega)))
theorem d2_0 : decode method_2_code 0 = .ok (.iload_n 0, 1) := by decide +kernel
theorem d2_1 : decode method_2_code 1 = .ok (.bipush 65, 2) := by decide +kernel
theorem d2_3 : decode method_2_code 3 = .ok (.if_icmp .lt 167, 3) := by decide +kernel
theorem d2_6 : decode method_2_code 6 = .ok (.iload_n 0, 1) := by decide +kernel
theorem d2_7 : decode method_2_code 7 = .ok (.bipush 91, 2) := by decide +kernel
theorem d2_9 : decode method_2_code 9 = .ok (.if_icmp .lt 9, 3) := by decide +kernel
theorem d2_12 : decode method_2_code 12 = .ok (.iload_n 0, 1) := by decide +kernel
theorem d2_13 : decode method_2_code 13 = .ok (.bipush 94, 2) := by decide +kernel
theorem d2_15 : decode method_2_code 15 = .ok (.if_icmp .le 155, 3) := by decide +kernel
theorem d2_18 : decode method_2_code 18 = .ok (.iload_n 0, 1) := by decide +kernel
theorem d2_19 : decode method_2_code 19 = .ok (.bipush 96, 2) := by decide +kernel
theorem d2_21 : decode method_2_code 21 = .ok (.if_icmp .eq 149, 3) := by decide +kernel
theorem d2_24 : decode method_2_code 24 = .ok (.iload_n 0, 1) := by decide +kernel
theorem d2_25 : decode method_2_code 25 = .ok (.bipush 123, 2) := by decide +kernel
theorem d2_27 : decode method_2_code 27 = .ok (.if_icmp .lt 10, 3) := by decide +kernel
theorem d2_30 : decode method_2_code 30 = .ok (.iload_n 0, 1) := by decide +kernel
theorem d2_31 : decode method_2_code 31 = .ok (.sipush 191, 3) := by decide +kernel
theorem d2_34 : decode method_2_code 34 = .ok (.if_icmp .le 136, 3) := by decide +kernel
theorem d2_37 : decode method_2_code 37 = .ok (.iload_n 0, 1) := by decide +kernel
theorem d2_38 : decode method_2_code 38 = .ok (.sipush 215, 3) := by decide +kernel
theorem d2_41 : decode method_2_code 41 = .ok (.if_icmp .eq 129, 3) := by decide +kernel
theorem d2_44 : decode method_2_code 44 = .ok (.iload_n 0, 1) := by decide +kernel
theorem d2_45 : decode method_2_code 45 = .ok (.sipush 247, 3) := by decide +kernel
theorem d2_48 : decode method_2_code 48 = .ok (.if_icmp .eq 122, 3) := by decide +kernel
theorem d2_51 : decode method_2_code 51 = .ok (.iload_n 0, 1) := by decide +kernel
theorem d2_52 : decode method_2_code 52 = .ok (.sipush 768, 3) := by decide +kernel
theorem d2_55 : decode method_2_code 55 = .ok (.if_icmp .lt 10, 3) := by decide +kernel
theorem d2_58 : decode method_2_code 58 = .ok (.iload_n 0, 1) := by decide +kernel
theorem d2_59 : decode method_2_code 59 = .ok (.sipush 879, 3) := by decide +kernel
theorem d2_62 : decode method_2_code 62 = .ok (.if_icmp .le 108, 3) := by decide +kernel
theorem d2_65 : decode method_2_code 65 = .ok (.iload_n 0, 1) := by decide +kernel
theorem d2_66 : decode method_2_code 66 = .ok (.sipush 894, 3) := by decide +kernel
theorem d2_69 : decode method_2_code 69 = .ok (.if_icmp .eq 101, 3) := by decide +kernel
theorem d2_72 : decode method_2_code 72 = .ok (.iload_n 0, 1) := by decide +kernel
theorem d2_73 : decode method_2_code 73 = .ok (.sipush 8192, 3) := by decide +kernel
theorem d2_76 : decode method_2_code 76 = .ok (.if_icmp .lt 10, 3) := by decide +kernel
theorem d2_79 : decode method_2_code 79 = .ok (.iload_n 0, 1) := by decide +kernel
theorem d2_80 : decode method_2_code 80 = .ok (.sipush 8203, 3) := by decide +kernel
theorem d2_83 : decode method_2_code 83 = .ok (.if_icmp .le 87, 3) := by decide +kernel
theorem d2_86 : decode method_2_code 86 = .ok (.iload_n 0, 1) := by decide +kernel
theorem d2_87 : decode method_2_code 87 = .ok (.sipush 8206, 3) := by decide +kernel
theorem d2_90 : decode method_2_code 90 = .ok (.if_icmp .lt 10, 3) := by decide +kernel
theorem d2_93 : decode method_2_code 93 = .ok (.iload_n 0, 1) := by decide +kernel
theorem d2_94 : decode method_2_code 94 = .ok (.sipush 8303, 3) := by decide +kernel
theorem d2_97 : decode method_2_code 97 = .ok (.if_icmp .le 73, 3) := by decide +kernel
theorem d2_100 : decode method_2_code 100 = .ok (.iload_n 0, 1) := by decide +kernel
theorem d2_101 : decode method_2_code 101 = .ok (.sipush 8592, 3) := by decide +kernel
theorem d2_104 : decode method_2_code 104 = .ok (.if_icmp .lt 10, 3) := by decide +kernel
theorem d2_107 : decode method_2_code 107 = .ok (.iload_n 0, 1) := by decide +kernel
theorem d2_108 : decode method_2_code 108 = .ok (.sipush 11263, 3) := by decide +kernel
theorem d2_111 : decode method_2_code 111 = .ok (.if_icmp .le 59, 3) := by decide +kernel
theorem d2_114 : decode method_2_code 114 = .ok (.iload_n 0, 1) := by decide +kernel
theorem d2_115 : decode method_2_code 115 = .ok (.sipush 12272, 3) := by decide +kernel
theorem d2_118 : decode method_2_code 118 = .ok (.if_icmp .lt 10, 3) := by decide +kernel
theorem d2_121 : decode method_2_code 121 = .ok (.iload_n 0, 1) := by decide +kernel
theorem d2_122 : decode method_2_code 122 = .ok (.sipush 12288, 3) := by decide +kernel
theorem d2_125 : decode method_2_code 125 = .ok (.if_icmp .le 45, 3) := by decide +kernel
theorem d2_128 : decode method_2_code 128 = .ok (.iload_n 0, 1) := by decide +kernel
theorem d2_129 : decode method_2_code 129 = .ok (.ldc 7, 2) := by decide +kernel
theorem d2_131 : decode method_2_code 131 = .ok (.if_icmp .lt 9, 3) := by decide +kernel
theorem d2_134 : decode method_2_code 134 = .ok (.iload_n 0, 1) := by decide +kernel
theorem d2_135 : decode method_2_code 135 = .ok (.ldc 8, 2) := by decide +kernel
theorem d2_137 : decode method_2_code 137 = .ok (.if_icmp .le 33, 3) := by decide +kernel
theorem d2_140 : decode method_2_code 140 = .ok (.iload_n 0, 1) := by decide +kernel
theorem d2_141 : decode method_2_code 141 = .ok (.ldc 9, 2) := by decide +kernel
theorem d2_143 : decode method_2_code 143 = .ok (.if_icmp .lt 9, 3) := by decide +kernel
theorem d2_146 : decode method_2_code 146 = .ok (.iload_n 0, 1) := by decide +kernel
theorem d2_147 : decode method_2_code 147 = .ok (.ldc 10, 2) := by decide +kernel
theorem d2_149 : decode method_2_code 149 = .ok (.if_icmp .le 21, 3) := by decide +kernel
theorem d2_152 : decode method_2_code 152 = .ok (.iload_n 0, 1) := by decide +kernel
theorem d2_153 : decode method_2_code 153 = .ok (.ldc 11, 2) := by decide +kernel
theorem d2_155 : decode method_2_code 155 = .ok (.if_icmp .lt 9, 3) := by decide +kernel
theorem d2_158 : decode method_2_code 158 = .ok (.iload_n 0, 1) := by decide +kernel
theorem d2_159 : decode method_2_code 159 = .ok (.ldc 12, 2) := by decide +kernel
theorem d2_161 : decode method_2_code 161 = .ok (.if_icmp .le 9, 3) := by decide +kernel
theorem d2_164 : decode method_2_code 164 = .ok (.iload_n 0, 1) := by decide +kernel
theorem d2_165 : decode method_2_code 165 = .ok (.ldc 13, 2) := by decide +kernel
theorem d2_167 : decode method_2_code 167 = .ok (.if_icmp .le 7, 3) := by decide +kernel
theorem d2_170 : decode method_2_code 170 = .ok (.iconst 1, 1) := by decide +kernel
theorem d2_171 : decode method_2_code 171 = .ok (.goto 4, 3) := by decide +kernel
theorem d2_174 : decode method_2_code 174 = .ok (.iconst 0, 1) := by decide +kernel
theorem d2_175 : decode method_2_code 175 = .ok (.ireturn, 1) := by decide +kernel
theorem pn_2 : plainFor (⟨"com/example/twigwright/twigwright/XmlNameIsNameStartPinLaw", "excluded", "(I)Z"⟩ : MethodName) = true := by first | exact plainFor_of_name (by first | (simp [plainName, overriddenIn]; done) | decide +kernel) | decide +kernel
set_option maxRecDepth 65536 in
set_option maxHeartbeats 40000000 in
theorem rm_2 (l : Launch) (Z : State) (a0 : Array Value) (hw : ∀ d ∈ tables_1, d.before a0 Z = true) (p0 : Int32) (h : Heap) (n0 : Nat) (Z0 : n0 ≤ h.size)  :
    Does l Z (⟨"com/example/twigwright/twigwright/XmlNameIsNameStartPinLaw", "excluded", "(I)Z"⟩ : MethodName) method_2_code 1 (some .boolean) ({ frames := 0, cells := 0, slots := 0, locals := 0 } : Room) #[(.int p0)] h n0 (fun v h' => h = h' ∧ ∃ r : Int32, v = some (.int r) ∧ (r.toInt = 1 ∧ own_xc p0.toInt ∨ r.toInt = 0 ∧ ¬ own_xc p0.toInt)) := by
  refine Does.of_body pn_2 [.val (.int p0)] (fun m => by first | (simp [entryFrame, mkF, argsToLocals, Value.category]; done) | rfl) ?_
  intro W hWl cx
  subst hWl
  have cx : Cx W Z "com/example/twigwright/twigwright/XmlNameIsNameStartPinLaw" "excluded" method_2_code 1 (some .boolean) := cx
  have lz1 : ((1 : Int32) &&& 1).toInt = 1 := rfl
  have lz0 : ((0 : Int32) &&& 1).toInt = 0 := rfl
  have l32_65 : (65 : Int32).toInt = 65 := rfl
  have l32_91 : (91 : Int32).toInt = 91 := rfl
  have l32_94 : (94 : Int32).toInt = 94 := rfl
  have l32_96 : (96 : Int32).toInt = 96 := rfl
  have l32_123 : (123 : Int32).toInt = 123 := rfl
  have l32_191 : (191 : Int32).toInt = 191 := rfl
  have l32_215 : (215 : Int32).toInt = 215 := rfl
  have l32_247 : (247 : Int32).toInt = 247 := rfl
  have l32_768 : (768 : Int32).toInt = 768 := rfl
  have l32_879 : (879 : Int32).toInt = 879 := rfl
  have l32_894 : (894 : Int32).toInt = 894 := rfl
  have l32_8192 : (8192 : Int32).toInt = 8192 := rfl
  have l32_8203 : (8203 : Int32).toInt = 8203 := rfl
  have l32_8206 : (8206 : Int32).toInt = 8206 := rfl
  have l32_8303 : (8303 : Int32).toInt = 8303 := rfl
  have l32_8592 : (8592 : Int32).toInt = 8592 := rfl
  have l32_11263 : (11263 : Int32).toInt = 11263 := rfl
  have l32_12272 : (12272 : Int32).toInt = 12272 := rfl
  have l32_12288 : (12288 : Int32).toInt = 12288 := rfl
  have l32_55296 : (55296 : Int32).toInt = 55296 := rfl
  have l32_63743 : (63743 : Int32).toInt = 63743 := rfl
  have l32_64976 : (64976 : Int32).toInt = 64976 := rfl
  have l32_65007 : (65007 : Int32).toInt = 65007 := rfl
  have l32_65534 : (65534 : Int32).toInt = 65534 := rfl
  have l32_65535 : (65535 : Int32).toInt = 65535 := rfl
  have l32_983039 : (983039 : Int32).toInt = 983039 := rfl
  have l32_1 : (1 : Int32).toInt = 1 := rfl
  have l32_0 : (0 : Int32).toInt = 0 := rfl
  have Jy : own_xc p0.toInt → Ok W ({ frames := 0, cells := 0, slots := 0, locals := 0 } : Room) n0 (fun v h' => h = h' ∧ ∃ r : Int32, v = some (.int r) ∧ (r.toInt = 1 ∧ own_xc p0.toInt ∨ r.toInt = 0 ∧ ¬ own_xc p0.toInt)) h 0 0 170 [.val (.int p0)] [] := by
    intro j
    refine Ok.iconst cx d2_170 171 rfl (1 : Int32) rfl ?_
    refine Ok.goto cx d2_171 175 (by decide) ?_
    exact Ok.zreturn cx d2_175 (by decide) (by decide) ⟨rfl, _, rfl, (by first | exact Or.inl ⟨rfl, j⟩ | exact Or.inr ⟨rfl, j⟩)⟩
  have Jn : ¬ own_xc p0.toInt → Ok W ({ frames := 0, cells := 0, slots := 0, locals := 0 } : Room) n0 (fun v h' => h = h' ∧ ∃ r : Int32, v = some (.int r) ∧ (r.toInt = 1 ∧ own_xc p0.toInt ∨ r.toInt = 0 ∧ ¬ own_xc p0.toInt)) h 0 0 174 [.val (.int p0)] [] := by
    intro j
    refine Ok.iconst cx d2_174 175 rfl (0 : Int32) rfl ?_
    exact Ok.zreturn cx d2_175 (by decide) (by decide) ⟨rfl, _, rfl, (by first | exact Or.inl ⟨rfl, j⟩ | exact Or.inr ⟨rfl, j⟩)⟩
  have J164 : (own_xc p0.toInt ↔ ((983040 ≤ p0.toInt))) → Ok W ({ frames := 0, cells := 0, slots := 0, locals := 0 } : Room) n0 (fun v h' => h = h' ∧ ∃ r : Int32, v = some (.int r) ∧ (r.toInt = 1 ∧ own_xc p0.toInt ∨ r.toInt = 0 ∧ ¬ own_xc p0.toInt)) h 0 0 164 [.val (.int p0)] [] := by
    intro j164
    refine Ok.iloadN cx d2_164 rfl 165 rfl ?_
    refine Ok.ldc cx (own_w hw 7 rfl) d2_165 167 rfl ?_
    refine Ok.icmp_le cx d2_167 174 170 (by decide) rfl (fun c167 => ?_) (fun c167 => ?_)
    · skip
      exact Jn (fun z => by have z := j164.mp z; omega)
    · skip
      exact Jy (j164.mpr (by omega))
  have J152 : (own_xc p0.toInt ↔ ((65534 ≤ p0.toInt ∧ p0.toInt ≤ 65535) ∨ (983040 ≤ p0.toInt))) → Ok W ({ frames := 0, cells := 0, slots := 0, locals := 0 } : Room) n0 (fun v h' => h = h' ∧ ∃ r : Int32, v = some (.int r) ∧ (r.toInt = 1 ∧ own_xc p0.toInt ∨ r.toInt = 0 ∧ ¬ own_xc p0.toInt)) h 0 0 152 [.val (.int p0)] [] := by
    intro j152
    refine Ok.iloadN cx d2_152 rfl 153 rfl ?_
    refine Ok.ldc cx (own_w hw 23 rfl) d2_153 155 rfl ?_
    refine Ok.icmp_lt cx d2_155 164 158 (by decide) rfl (fun c155 => ?_) (fun c155 => ?_)
    · skip
      exact J164 (j152.trans (or_iff_right (by omega)))
    · skip
      refine Ok.iloadN cx d2_158 rfl 159 rfl ?_
      refine Ok.ldc cx (own_w hw 29 rfl) d2_159 161 rfl ?_
      refine Ok.icmp_le cx d2_161 170 164 (by decide) rfl (fun c161 => ?_) (fun c161 => ?_)
      · skip
        exact Jy (j152.mpr (by omega))
      · skip
        exact J164 (j152.trans (or_iff_right (by omega)))
  have J140 : (own_xc p0.toInt ↔ ((64976 ≤ p0.toInt ∧ p0.toInt ≤ 65007) ∨ (65534 ≤ p0.toInt ∧ p0.toInt ≤ 65535) ∨ (983040 ≤ p0.toInt))) → Ok W ({ frames := 0, cells := 0, slots := 0, locals := 0 } : Room) n0 (fun v h' => h = h' ∧ ∃ r : Int32, v = some (.int r) ∧ (r.toInt = 1 ∧ own_xc p0.toInt ∨ r.toInt = 0 ∧ ¬ own_xc p0.toInt)) h 0 0 140 [.val (.int p0)] [] := by
    intro j140
    refine Ok.iloadN cx d2_140 rfl 141 rfl ?_
    refine Ok.ldc cx (own_w hw 22 rfl) d2_141 143 rfl ?_
    refine Ok.icmp_lt cx d2_143 152 146 (by decide) rfl (fun c143 => ?_) (fun c143 => ?_)
    · skip
      exact J152 (j140.trans (or_iff_right (by omega)))
    · skip
      refine Ok.iloadN cx d2_146 rfl 147 rfl ?_
      refine Ok.ldc cx (own_w hw 28 rfl) d2_147 149 rfl ?_
      refine Ok.icmp_le cx d2_149 170 152 (by decide) rfl (fun c149 => ?_) (fun c149 => ?_)
      · skip
        exact Jy (j140.mpr (by omega))
      · skip
        exact J152 (j140.trans (or_iff_right (by omega)))
  have J128 : (own_xc p0.toInt ↔ ((55296 ≤ p0.toInt ∧ p0.toInt ≤ 63743) ∨ (64976 ≤ p0.toInt ∧ p0.toInt ≤ 65007) ∨ (65534 ≤ p0.toInt ∧ p0.toInt ≤ 65535) ∨ (983040 ≤ p0.toInt))) → Ok W ({ frames := 0, cells := 0, slots := 0, locals := 0 } : Room) n0 (fun v h' => h = h' ∧ ∃ r : Int32, v = some (.int r) ∧ (r.toInt = 1 ∧ own_xc p0.toInt ∨ r.toInt = 0 ∧ ¬ own_xc p0.toInt)) h 0 0 128 [.val (.int p0)] [] := by
    intro j128
    refine Ok.iloadN cx d2_128 rfl 129 rfl ?_
    refine Ok.ldc cx (own_w hw 21 rfl) d2_129 131 rfl ?_
    refine Ok.icmp_lt cx d2_131 140 134 (by decide) rfl (fun c131 => ?_) (fun c131 => ?_)
    · skip
      exact J140 (j128.trans (or_iff_right (by omega)))
    · skip
      refine Ok.iloadN cx d2_134 rfl 135 rfl ?_
      refine Ok.ldc cx (own_w hw 27 rfl) d2_135 137 rfl ?_
      refine Ok.icmp_le cx d2_137 170 140 (by decide) rfl (fun c137 => ?_) (fun c137 => ?_)
      · skip
        exact Jy (j128.mpr (by omega))
      · skip
        exact J140 (j128.trans (or_iff_right (by omega)))
  have J114 : (own_xc p0.toInt ↔ ((12272 ≤ p0.toInt ∧ p0.toInt ≤ 12288) ∨ (55296 ≤ p0.toInt ∧ p0.toInt ≤ 63743) ∨ (64976 ≤ p0.toInt ∧ p0.toInt ≤ 65007) ∨ (65534 ≤ p0.toInt ∧ p0.toInt ≤ 65535) ∨ (983040 ≤ p0.toInt))) → Ok W ({ frames := 0, cells := 0, slots := 0, locals := 0 } : Room) n0 (fun v h' => h = h' ∧ ∃ r : Int32, v = some (.int r) ∧ (r.toInt = 1 ∧ own_xc p0.toInt ∨ r.toInt = 0 ∧ ¬ own_xc p0.toInt)) h 0 0 114 [.val (.int p0)] [] := by
    intro j114
    refine Ok.iloadN cx d2_114 rfl 115 rfl ?_
    refine Ok.sipush cx d2_115 118 rfl (12272 : Int32) rfl ?_
    refine Ok.icmp_lt cx d2_118 128 121 (by decide) rfl (fun c118 => ?_) (fun c118 => ?_)
    · skip
      exact J128 (j114.trans (or_iff_right (by omega)))
    · skip
      refine Ok.iloadN cx d2_121 rfl 122 rfl ?_
      refine Ok.sipush cx d2_122 125 rfl (12288 : Int32) rfl ?_
      refine Ok.icmp_le cx d2_125 170 128 (by decide) rfl (fun c125 => ?_) (fun c125 => ?_)
      · skip
        exact Jy (j114.mpr (by omega))
      · skip
        exact J128 (j114.trans (or_iff_right (by omega)))
  have J100 : (own_xc p0.toInt ↔ ((8592 ≤ p0.toInt ∧ p0.toInt ≤ 11263) ∨ (12272 ≤ p0.toInt ∧ p0.toInt ≤ 12288) ∨ (55296 ≤ p0.toInt ∧ p0.toInt ≤ 63743) ∨ (64976 ≤ p0.toInt ∧ p0.toInt ≤ 65007) ∨ (65534 ≤ p0.toInt ∧ p0.toInt ≤ 65535) ∨ (983040 ≤ p0.toInt))) → Ok W ({ frames := 0, cells := 0, slots := 0, locals := 0 } : Room) n0 (fun v h' => h = h' ∧ ∃ r : Int32, v = some (.int r) ∧ (r.toInt = 1 ∧ own_xc p0.toInt ∨ r.toInt = 0 ∧ ¬ own_xc p0.toInt)) h 0 0 100 [.val (.int p0)] [] := by
    intro j100
    refine Ok.iloadN cx d2_100 rfl 101 rfl ?_
    refine Ok.sipush cx d2_101 104 rfl (8592 : Int32) rfl ?_
    refine Ok.icmp_lt cx d2_104 114 107 (by decide) rfl (fun c104 => ?_) (fun c104 => ?_)
    · skip
      exact J114 (j100.trans (or_iff_right (by omega)))
    · skip
      refine Ok.iloadN cx d2_107 rfl 108 rfl ?_
      refine Ok.sipush cx d2_108 111 rfl (11263 : Int32) rfl ?_
      refine Ok.icmp_le cx d2_111 170 114 (by decide) rfl (fun c111 => ?_) (fun c111 => ?_)
      · skip
        exact Jy (j100.mpr (by omega))
      · skip
        exact J114 (j100.trans (or_iff_right (by omega)))
  have J86 : (own_xc p0.toInt ↔ ((8206 ≤ p0.toInt ∧ p0.toInt ≤ 8303) ∨ (8592 ≤ p0.toInt ∧ p0.toInt ≤ 11263) ∨ (12272 ≤ p0.toInt ∧ p0.toInt ≤ 12288) ∨ (55296 ≤ p0.toInt ∧ p0.toInt ≤ 63743) ∨ (64976 ≤ p0.toInt ∧ p0.toInt ≤ 65007) ∨ (65534 ≤ p0.toInt ∧ p0.toInt ≤ 65535) ∨ (983040 ≤ p0.toInt))) → Ok W ({ frames := 0, cells := 0, slots := 0, locals := 0 } : Room) n0 (fun v h' => h = h' ∧ ∃ r : Int32, v = some (.int r) ∧ (r.toInt = 1 ∧ own_xc p0.toInt ∨ r.toInt = 0 ∧ ¬ own_xc p0.toInt)) h 0 0 86 [.val (.int p0)] [] := by
    intro j86
    refine Ok.iloadN cx d2_86 rfl 87 rfl ?_
    refine Ok.sipush cx d2_87 90 rfl (8206 : Int32) rfl ?_
    refine Ok.icmp_lt cx d2_90 100 93 (by decide) rfl (fun c90 => ?_) (fun c90 => ?_)
    · skip
      exact J100 (j86.trans (or_iff_right (by omega)))
    · skip
      refine Ok.iloadN cx d2_93 rfl 94 rfl ?_
      refine Ok.sipush cx d2_94 97 rfl (8303 : Int32) rfl ?_
      refine Ok.icmp_le cx d2_97 170 100 (by decide) rfl (fun c97 => ?_) (fun c97 => ?_)
      · skip
        exact Jy (j86.mpr (by omega))
      · skip
        exact J100 (j86.trans (or_iff_right (by omega)))
  have J72 : (own_xc p0.toInt ↔ ((8192 ≤ p0.toInt ∧ p0.toInt ≤ 8203) ∨ (8206 ≤ p0.toInt ∧ p0.toInt ≤ 8303) ∨ (8592 ≤ p0.toInt ∧ p0.toInt ≤ 11263) ∨ (12272 ≤ p0.toInt ∧ p0.toInt ≤ 12288) ∨ (55296 ≤ p0.toInt ∧ p0.toInt ≤ 63743) ∨ (64976 ≤ p0.toInt ∧ p0.toInt ≤ 65007) ∨ (65534 ≤ p0.toInt ∧ p0.toInt ≤ 65535) ∨ (983040 ≤ p0.toInt))) → Ok W ({ frames := 0, cells := 0, slots := 0, locals := 0 } : Room) n0 (fun v h' => h = h' ∧ ∃ r : Int32, v = some (.int r) ∧ (r.toInt = 1 ∧ own_xc p0.toInt ∨ r.toInt = 0 ∧ ¬ own_xc p0.toInt)) h 0 0 72 [.val (.int p0)] [] := by
    intro j72
    refine Ok.iloadN cx d2_72 rfl 73 rfl ?_
    refine Ok.sipush cx d2_73 76 rfl (8192 : Int32) rfl ?_
    refine Ok.icmp_lt cx d2_76 86 79 (by decide) rfl (fun c76 => ?_) (fun c76 => ?_)
    · skip
      exact J86 (j72.trans (or_iff_right (by omega)))
    · skip
      refine Ok.iloadN cx d2_79 rfl 80 rfl ?_
      refine Ok.sipush cx d2_80 83 rfl (8203 : Int32) rfl ?_
      refine Ok.icmp_le cx d2_83 170 86 (by decide) rfl (fun c83 => ?_) (fun c83 => ?_)
      · skip
        exact Jy (j72.mpr (by omega))
      · skip
        exact J86 (j72.trans (or_iff_right (by omega)))
  have J65 : (own_xc p0.toInt ↔ ((894 ≤ p0.toInt ∧ p0.toInt ≤ 894) ∨ (8192 ≤ p0.toInt ∧ p0.toInt ≤ 8203) ∨ (8206 ≤ p0.toInt ∧ p0.toInt ≤ 8303) ∨ (8592 ≤ p0.toInt ∧ p0.toInt ≤ 11263) ∨ (12272 ≤ p0.toInt ∧ p0.toInt ≤ 12288) ∨ (55296 ≤ p0.toInt ∧ p0.toInt ≤ 63743) ∨ (64976 ≤ p0.toInt ∧ p0.toInt ≤ 65007) ∨ (65534 ≤ p0.toInt ∧ p0.toInt ≤ 65535) ∨ (983040 ≤ p0.toInt))) → Ok W ({ frames := 0, cells := 0, slots := 0, locals := 0 } : Room) n0 (fun v h' => h = h' ∧ ∃ r : Int32, v = some (.int r) ∧ (r.toInt = 1 ∧ own_xc p0.toInt ∨ r.toInt = 0 ∧ ¬ own_xc p0.toInt)) h 0 0 65 [.val (.int p0)] [] := by
    intro j65
    refine Ok.iloadN cx d2_65 rfl 66 rfl ?_
    refine Ok.sipush cx d2_66 69 rfl (894 : Int32) rfl ?_
    refine Ok.icmp_eq cx d2_69 170 72 (by decide) rfl (fun c69 => ?_) (fun c69 => ?_)
    · skip
      exact Jy (j65.mpr (by omega))
    · skip
      exact J72 (j65.trans (or_iff_right (by omega)))
  have J51 : (own_xc p0.toInt ↔ ((768 ≤ p0.toInt ∧ p0.toInt ≤ 879) ∨ (894 ≤ p0.toInt ∧ p0.toInt ≤ 894) ∨ (8192 ≤ p0.toInt ∧ p0.toInt ≤ 8203) ∨ (8206 ≤ p0.toInt ∧ p0.toInt ≤ 8303) ∨ (8592 ≤ p0.toInt ∧ p0.toInt ≤ 11263) ∨ (12272 ≤ p0.toInt ∧ p0.toInt ≤ 12288) ∨ (55296 ≤ p0.toInt ∧ p0.toInt ≤ 63743) ∨ (64976 ≤ p0.toInt ∧ p0.toInt ≤ 65007) ∨ (65534 ≤ p0.toInt ∧ p0.toInt ≤ 65535) ∨ (983040 ≤ p0.toInt))) → Ok W ({ frames := 0, cells := 0, slots := 0, locals := 0 } : Room) n0 (fun v h' => h = h' ∧ ∃ r : Int32, v = some (.int r) ∧ (r.toInt = 1 ∧ own_xc p0.toInt ∨ r.toInt = 0 ∧ ¬ own_xc p0.toInt)) h 0 0 51 [.val (.int p0)] [] := by
    intro j51
    refine Ok.iloadN cx d2_51 rfl 52 rfl ?_
    refine Ok.sipush cx d2_52 55 rfl (768 : Int32) rfl ?_
    refine Ok.icmp_lt cx d2_55 65 58 (by decide) rfl (fun c55 => ?_) (fun c55 => ?_)
    · skip
      exact J65 (j51.trans (or_iff_right (by omega)))
    · skip
      refine Ok.iloadN cx d2_58 rfl 59 rfl ?_
      refine Ok.sipush cx d2_59 62 rfl (879 : Int32) rfl ?_
      refine Ok.icmp_le cx d2_62 170 65 (by decide) rfl (fun c62 => ?_) (fun c62 => ?_)
      · skip
        exact Jy (j51.mpr (by omega))
      · skip
        exact J65 (j51.trans (or_iff_right (by omega)))
  have J44 : (own_xc p0.toInt ↔ ((247 ≤ p0.toInt ∧ p0.toInt ≤ 247) ∨ (768 ≤ p0.toInt ∧ p0.toInt ≤ 879) ∨ (894 ≤ p0.toInt ∧ p0.toInt ≤ 894) ∨ (8192 ≤ p0.toInt ∧ p0.toInt ≤ 8203) ∨ (8206 ≤ p0.toInt ∧ p0.toInt ≤ 8303) ∨ (8592 ≤ p0.toInt ∧ p0.toInt ≤ 11263) ∨ (12272 ≤ p0.toInt ∧ p0.toInt ≤ 12288) ∨ (55296 ≤ p0.toInt ∧ p0.toInt ≤ 63743) ∨ (64976 ≤ p0.toInt ∧ p0.toInt ≤ 65007) ∨ (65534 ≤ p0.toInt ∧ p0.toInt ≤ 65535) ∨ (983040 ≤ p0.toInt))) → Ok W ({ frames := 0, cells := 0, slots := 0, locals := 0 } : Room) n0 (fun v h' => h = h' ∧ ∃ r : Int32, v = some (.int r) ∧ (r.toInt = 1 ∧ own_xc p0.toInt ∨ r.toInt = 0 ∧ ¬ own_xc p0.toInt)) h 0 0 44 [.val (.int p0)] [] := by
    intro j44
    refine Ok.iloadN cx d2_44 rfl 45 rfl ?_
    refine Ok.sipush cx d2_45 48 rfl (247 : Int32) rfl ?_
    refine Ok.icmp_eq cx d2_48 170 51 (by decide) rfl (fun c48 => ?_) (fun c48 => ?_)
    · skip
      exact Jy (j44.mpr (by omega))
    · skip
      exact J51 (j44.trans (or_iff_right (by omega)))
  have J37 : (own_xc p0.toInt ↔ ((215 ≤ p0.toInt ∧ p0.toInt ≤ 215) ∨ (247 ≤ p0.toInt ∧ p0.toInt ≤ 247) ∨ (768 ≤ p0.toInt ∧ p0.toInt ≤ 879) ∨ (894 ≤ p0.toInt ∧ p0.toInt ≤ 894) ∨ (8192 ≤ p0.toInt ∧ p0.toInt ≤ 8203) ∨ (8206 ≤ p0.toInt ∧ p0.toInt ≤ 8303) ∨ (8592 ≤ p0.toInt ∧ p0.toInt ≤ 11263) ∨ (12272 ≤ p0.toInt ∧ p0.toInt ≤ 12288) ∨ (55296 ≤ p0.toInt ∧ p0.toInt ≤ 63743) ∨ (64976 ≤ p0.toInt ∧ p0.toInt ≤ 65007) ∨ (65534 ≤ p0.toInt ∧ p0.toInt ≤ 65535) ∨ (983040 ≤ p0.toInt))) → Ok W ({ frames := 0, cells := 0, slots := 0, locals := 0 } : Room) n0 (fun v h' => h = h' ∧ ∃ r : Int32, v = some (.int r) ∧ (r.toInt = 1 ∧ own_xc p0.toInt ∨ r.toInt = 0 ∧ ¬ own_xc p0.toInt)) h 0 0 37 [.val (.int p0)] [] := by
    intro j37
    refine Ok.iloadN cx d2_37 rfl 38 rfl ?_
    refine Ok.sipush cx d2_38 41 rfl (215 : Int32) rfl ?_
    refine Ok.icmp_eq cx d2_41 170 44 (by decide) rfl (fun c41 => ?_) (fun c41 => ?_)
    · skip
      exact Jy (j37.mpr (by omega))
    · skip
      exact J44 (j37.trans (or_iff_right (by omega)))
  have J24 : (own_xc p0.toInt ↔ ((123 ≤ p0.toInt ∧ p0.toInt ≤ 191) ∨ (215 ≤ p0.toInt ∧ p0.toInt ≤ 215) ∨ (247 ≤ p0.toInt ∧ p0.toInt ≤ 247) ∨ (768 ≤ p0.toInt ∧ p0.toInt ≤ 879) ∨ (894 ≤ p0.toInt ∧ p0.toInt ≤ 894) ∨ (8192 ≤ p0.toInt ∧ p0.toInt ≤ 8203) ∨ (8206 ≤ p0.toInt ∧ p0.toInt ≤ 8303) ∨ (8592 ≤ p0.toInt ∧ p0.toInt ≤ 11263) ∨ (12272 ≤ p0.toInt ∧ p0.toInt ≤ 12288) ∨ (55296 ≤ p0.toInt ∧ p0.toInt ≤ 63743) ∨ (64976 ≤ p0.toInt ∧ p0.toInt ≤ 65007) ∨ (65534 ≤ p0.toInt ∧ p0.toInt ≤ 65535) ∨ (983040 ≤ p0.toInt))) → Ok W ({ frames := 0, cells := 0, slots := 0, locals := 0 } : Room) n0 (fun v h' => h = h' ∧ ∃ r : Int32, v = some (.int r) ∧ (r.toInt = 1 ∧ own_xc p0.toInt ∨ r.toInt = 0 ∧ ¬ own_xc p0.toInt)) h 0 0 24 [.val (.int p0)] [] := by
    intro j24
    refine Ok.iloadN cx d2_24 rfl 25 rfl ?_
    refine Ok.bipush cx d2_25 27 rfl (123 : Int32) rfl ?_
    refine Ok.icmp_lt cx d2_27 37 30 (by decide) rfl (fun c27 => ?_) (fun c27 => ?_)
    · skip
      exact J37 (j24.trans (or_iff_right (by omega)))
    · skip
      refine Ok.iloadN cx d2_30 rfl 31 rfl ?_
      refine Ok.sipush cx d2_31 34 rfl (191 : Int32) rfl ?_
      refine Ok.icmp_le cx d2_34 170 37 (by decide) rfl (fun c34 => ?_) (fun c34 => ?_)
      · skip
        exact Jy (j24.mpr (by omega))
      · skip
        exact J37 (j24.trans (or_iff_right (by omega)))
  have J18 : (own_xc p0.toInt ↔ ((96 ≤ p0.toInt ∧ p0.toInt ≤ 96) ∨ (123 ≤ p0.toInt ∧ p0.toInt ≤ 191) ∨ (215 ≤ p0.toInt ∧ p0.toInt ≤ 215) ∨ (247 ≤ p0.toInt ∧ p0.toInt ≤ 247) ∨ (768 ≤ p0.toInt ∧ p0.toInt ≤ 879) ∨ (894 ≤ p0.toInt ∧ p0.toInt ≤ 894) ∨ (8192 ≤ p0.toInt ∧ p0.toInt ≤ 8203) ∨ (8206 ≤ p0.toInt ∧ p0.toInt ≤ 8303) ∨ (8592 ≤ p0.toInt ∧ p0.toInt ≤ 11263) ∨ (12272 ≤ p0.toInt ∧ p0.toInt ≤ 12288) ∨ (55296 ≤ p0.toInt ∧ p0.toInt ≤ 63743) ∨ (64976 ≤ p0.toInt ∧ p0.toInt ≤ 65007) ∨ (65534 ≤ p0.toInt ∧ p0.toInt ≤ 65535) ∨ (983040 ≤ p0.toInt))) → Ok W ({ frames := 0, cells := 0, slots := 0, locals := 0 } : Room) n0 (fun v h' => h = h' ∧ ∃ r : Int32, v = some (.int r) ∧ (r.toInt = 1 ∧ own_xc p0.toInt ∨ r.toInt = 0 ∧ ¬ own_xc p0.toInt)) h 0 0 18 [.val (.int p0)] [] := by
    intro j18
    refine Ok.iloadN cx d2_18 rfl 19 rfl ?_
    refine Ok.bipush cx d2_19 21 rfl (96 : Int32) rfl ?_
    refine Ok.icmp_eq cx d2_21 170 24 (by decide) rfl (fun c21 => ?_) (fun c21 => ?_)
    · skip
      exact Jy (j18.mpr (by omega))
    · skip
      exact J24 (j18.trans (or_iff_right (by omega)))
  have J6 : (own_xc p0.toInt ↔ ((91 ≤ p0.toInt ∧ p0.toInt ≤ 94) ∨ (96 ≤ p0.toInt ∧ p0.toInt ≤ 96) ∨ (123 ≤ p0.toInt ∧ p0.toInt ≤ 191) ∨ (215 ≤ p0.toInt ∧ p0.toInt ≤ 215) ∨ (247 ≤ p0.toInt ∧ p0.toInt ≤ 247) ∨ (768 ≤ p0.toInt ∧ p0.toInt ≤ 879) ∨ (894 ≤ p0.toInt ∧ p0.toInt ≤ 894) ∨ (8192 ≤ p0.toInt ∧ p0.toInt ≤ 8203) ∨ (8206 ≤ p0.toInt ∧ p0.toInt ≤ 8303) ∨ (8592 ≤ p0.toInt ∧ p0.toInt ≤ 11263) ∨ (12272 ≤ p0.toInt ∧ p0.toInt ≤ 12288) ∨ (55296 ≤ p0.toInt ∧ p0.toInt ≤ 63743) ∨ (64976 ≤ p0.toInt ∧ p0.toInt ≤ 65007) ∨ (65534 ≤ p0.toInt ∧ p0.toInt ≤ 65535) ∨ (983040 ≤ p0.toInt))) → Ok W ({ frames := 0, cells := 0, slots := 0, locals := 0 } : Room) n0 (fun v h' => h = h' ∧ ∃ r : Int32, v = some (.int r) ∧ (r.toInt = 1 ∧ own_xc p0.toInt ∨ r.toInt = 0 ∧ ¬ own_xc p0.toInt)) h 0 0 6 [.val (.int p0)] [] := by
    intro j6
    refine Ok.iloadN cx d2_6 rfl 7 rfl ?_
    refine Ok.bipush cx d2_7 9 rfl (91 : Int32) rfl ?_
    refine Ok.icmp_lt cx d2_9 18 12 (by decide) rfl (fun c9 => ?_) (fun c9 => ?_)
    · skip
      exact J18 (j6.trans (or_iff_right (by omega)))
    · skip
      refine Ok.iloadN cx d2_12 rfl 13 rfl ?_
      refine Ok.bipush cx d2_13 15 rfl (94 : Int32) rfl ?_
      refine Ok.icmp_le cx d2_15 170 18 (by decide) rfl (fun c15 => ?_) (fun c15 => ?_)
      · skip
        exact Jy (j6.mpr (by omega))
      · skip
        exact J18 (j6.trans (or_iff_right (by omega)))
  have j0 : own_xc p0.toInt ↔ ((p0.toInt ≤ 64) ∨ (91 ≤ p0.toInt ∧ p0.toInt ≤ 94) ∨ (96 ≤ p0.toInt ∧ p0.toInt ≤ 96) ∨ (123 ≤ p0.toInt ∧ p0.toInt ≤ 191) ∨ (215 ≤ p0.toInt ∧ p0.toInt ≤ 215) ∨ (247 ≤ p0.toInt ∧ p0.toInt ≤ 247) ∨ (768 ≤ p0.toInt ∧ p0.toInt ≤ 879) ∨ (894 ≤ p0.toInt ∧ p0.toInt ≤ 894) ∨ (8192 ≤ p0.toInt ∧ p0.toInt ≤ 8203) ∨ (8206 ≤ p0.toInt ∧ p0.toInt ≤ 8303) ∨ (8592 ≤ p0.toInt ∧ p0.toInt ≤ 11263) ∨ (12272 ≤ p0.toInt ∧ p0.toInt ≤ 12288) ∨ (55296 ≤ p0.toInt ∧ p0.toInt ≤ 63743) ∨ (64976 ≤ p0.toInt ∧ p0.toInt ≤ 65007) ∨ (65534 ≤ p0.toInt ∧ p0.toInt ≤ 65535) ∨ (983040 ≤ p0.toInt)) := Iff.rfl
  refine Ok.iloadN cx d2_0 rfl 1 rfl ?_
  refine Ok.bipush cx d2_1 3 rfl (65 : Int32) rfl ?_
  refine Ok.icmp_lt cx d2_3 170 6 (by decide) rfl (fun c3 => ?_) (fun c3 => ?_)
  · skip
    exact Jy (j0.mpr (by omega))
  · skip
    exact J6 (j0.trans (or_iff_right (by omega)))
theorem pn_0 : plainFor x = true := by first | exact plainFor_of_name (by first | (simp [plainName, overriddenIn]; done) | decide +kernel) | decide +kernel
theorem pd_0 : parseMethodDescriptor "(I)Z" = some ⟨[.int], some .boolean⟩ := by decide +kernel
set_option maxRecDepth 65536 in
set_option maxHeartbeats 40000000 in
theorem rm_0 (l : Launch) (Z : State) (a0 : Array Value) (hw : ∀ d ∈ tables_1, d.before a0 Z = true) (p0 p1 : Int32) (h : Heap) (n0 : Nat) (Z0 : n0 ≤ h.size)  :
    DoesW l Z x code maxLocals ret room_1 tables_1 #[(.int p0), (.int p1)] h n0 (fun v _ => v = some (.int 1)) := by
  refine DoesW.of_body pn_0 [.val (.int p0), .val (.int p1), .unset, .unset, .unset, .unset, .unset] (fun m => by first | (simp [entryFrame, mkF, argsToLocals, Value.category, maxLocals]; done) | rfl) ?_
  intro W hWl cx
  subst hWl
  have cx : Cx W Z "com/example/twigwright/twigwright/XmlNameIsNameStartPinLaw" "law" code 7 (some .boolean) := cx
  have lz1 : ((1 : Int32) &&& 1).toInt = 1 := rfl
  have lz0 : ((0 : Int32) &&& 1).toInt = 0 := rfl
  have l32_15 : (15 : Int32).toInt = 15 := rfl
  have l32_0 : (0 : Int32).toInt = 0 := rfl
  have l32_1 : (1 : Int32).toInt = 1 := rfl
  have l32_2147483647 : (2147483647 : Int32).toInt = 2147483647 := rfl
  refine Ok.bipush cx at_0 2 rfl (15 : Int32) rfl ?_
  refine Ok.newarray cx (own_w hw 0 rfl) at_2 rfl (15) rfl (by omega) 15 (by omega) (by omega) (by decide) (by decide) 4 rfl fun h2_ a2 g2 E2 V2 => ?_
  have za2 : n0 ≤ a2 := by rw [g2]; exact Z0
  have Z0 := Nat.le_trans Z0 E2.1
  refine Ok.dup cx at_4 rfl 5 rfl ?_
  refine Ok.iconst cx at_5 6 rfl (0 : Int32) rfl ?_
  refine Ok.bipush cx at_6 8 rfl (65 : Int32) rfl ?_
  refine Ok.iastore cx at_8 V2 (0) rfl (by simp) (by first | assumption | omega) 9 rfl fun h8_ W8 G8 => ?_
  have Z0 := Nat.le_trans Z0 (Nat.le_of_eq W8.size.symm)
  have V2 := G8
  have V2 : AI Z h8_ a2 .int [(.int 65), (.int 0), (.int 0), (.int 0), (.int 0), (.int 0), (.int 0), (.int 0), (.int 0), (.int 0), (.int 0), (.int 0), (.int 0), (.int 0), (.int 0)] := V2
  refine Ok.dup cx at_9 rfl 10 rfl ?_
  refine Ok.iconst cx at_10 11 rfl (1 : Int32) rfl ?_
  refine Ok.bipush cx at_11 13 rfl (95 : Int32) rfl ?_
  refine Ok.iastore cx at_13 V2 (1) rfl (by simp) (by first | assumption | omega) 14 rfl fun h13_ W13 G13 => ?_
  have Z0 := Nat.le_trans Z0 (Nat.le_of_eq W13.size.symm)
  have V2 := G13
  have V2 : AI Z h13_ a2 .int [(.int 65), (.int 95), (.int 0), (.int 0), (.int 0), (.int 0), (.int 0), (.int 0), (.int 0), (.int 0), (.int 0), (.int 0), (.int 0), (.int 0), (.int 0)] := V2
  refine Ok.dup cx at_14 rfl 15 rfl ?_
  refine Ok.iconst cx at_15 16 rfl (2 : Int32) rfl ?_
  refine Ok.bipush cx at_16 18 rfl (97 : Int32) rfl ?_
  refine Ok.iastore cx at_18 V2 (2) rfl (by simp) (by first | assumption | omega) 19 rfl fun h18_ W18 G18 => ?_
  have Z0 := Nat.le_trans Z0 (Nat.le_of_eq W18.size.symm)
  have V2 := G18
  have V2 : AI Z h18_ a2 .int [(.int 65), (.int 95), (.int 97), (.int 0), (.int 0), (.int 0), (.int 0), (.int 0), (.int 0), (.int 0), (.int 0), (.int 0), (.int 0), (.int 0), (.int 0)] := V2
  refine Ok.dup cx at_19 rfl 20 rfl ?_
  refine Ok.iconst cx at_20 21 rfl (3 : Int32) rfl ?_
  refine Ok.sipush cx at_21 24 rfl (192 : Int32) rfl ?_
  refine Ok.iastore cx at_24 V2 (3) rfl (by simp) (by first | assumption | omega) 25 rfl fun h24_ W24 G24 => ?_
  have Z0 := Nat.le_trans Z0 (Nat.le_of_eq W24.size.symm)
  have V2 := G24
  have V2 : AI Z h24_ a2 .int [(.int 65), (.int 95), (.int 97), (.int 192), (.int 0), (.int 0), (.int 0), (.int 0), (.int 0), (.int 0), (.int 0), (.int 0), (.int 0), (.int 0), (.int 0)] := V2
  refine Ok.dup cx at_25 rfl 26 rfl ?_
  refine Ok.iconst cx at_26 27 rfl (4 : Int32) rfl ?_
  refine Ok.sipush cx at_27 30 rfl (216 : Int32) rfl ?_
  refine Ok.iastore cx at_30 V2 (4) rfl (by simp) (by first | assumption | omega) 31 rfl fun h30_ W30 G30 => ?_
  have Z0 := Nat.le_trans Z0 (Nat.le_of_eq W30.size.symm)
  have V2 := G30
  have V2 : AI Z h30_ a2 .int [(.int 65), (.int 95), (.int 97), (.int 192), (.int 216), (.int 0), (.int 0), (.int 0), (.int 0), (.int 0), (.int 0), (.int 0), (.int 0), (.int 0), (.int 0)] := V2
  refine Ok.dup cx at_31 rfl 32 rfl ?_
  refine Ok.iconst cx at_32 33 rfl (5 : Int32) rfl ?_
  refine Ok.sipush cx at_33 36 rfl (248 : Int32) rfl ?_
  refine Ok.iastore cx at_36 V2 (5) rfl (by simp) (by first | assumption | omega) 37 rfl fun h36_ W36 G36 => ?_
  have Z0 := Nat.le_trans Z0 (Nat.le_of_eq W36.size.symm)
  have V2 := G36
  have V2 : AI Z h36_ a2 .int [(.int 65), (.int 95), (.int 97), (.int 192), (.int 216), (.int 248), (.int 0), (.int 0), (.int 0), (.int 0), (.int 0), (.int 0), (.int 0), (.int 0), (.int 0)] := V2
  refine Ok.dup cx at_37 rfl 38 rfl ?_
  refine Ok.bipush cx at_38 40 rfl (6 : Int32) rfl ?_
  refine Ok.sipush cx at_40 43 rfl (880 : Int32) rfl ?_
  refine Ok.iastore cx at_43 V2 (6) rfl (by simp) (by first | assumption | omega) 44 rfl fun h43_ W43 G43 => ?_
  have Z0 := Nat.le_trans Z0 (Nat.le_of_eq W43.size.symm)
  have V2 := G43
  have V2 : AI Z h43_ a2 .int [(.int 65), (.int 95), (.int 97), (.int 192), (.int 216), (.int 248), (.int 880), (.int 0), (.int 0), (.int 0), (.int 0), (.int 0), (.int 0), (.int 0), (.int 0)] := V2
  refine Ok.dup cx at_44 rfl 45 rfl ?_
  refine Ok.bipush cx at_45 47 rfl (7 : Int32) rfl ?_
  refine Ok.sipush cx at_47 50 rfl (895 : Int32) rfl ?_
  refine Ok.iastore cx at_50 V2 (7) rfl (by simp) (by first | assumption | omega) 51 rfl fun h50_ W50 G50 => ?_
  have Z0 := Nat.le_trans Z0 (Nat.le_of_eq W50.size.symm)
  have V2 := G50
  have V2 : AI Z h50_ a2 .int [(.int 65), (.int 95), (.int 97), (.int 192), (.int 216), (.int 248), (.int 880), (.int 895), (.int 0), (.int 0), (.int 0), (.int 0), (.int 0), (.int 0), (.int 0)] := V2
  refine Ok.dup cx at_51 rfl 52 rfl ?_
  refine Ok.bipush cx at_52 54 rfl (8 : Int32) rfl ?_
  refine Ok.sipush cx at_54 57 rfl (8204 : Int32) rfl ?_
  refine Ok.iastore cx at_57 V2 (8) rfl (by simp) (by first | assumption | omega) 58 rfl fun h57_ W57 G57 => ?_
  have Z0 := Nat.le_trans Z0 (Nat.le_of_eq W57.size.symm)
  have V2 := G57
  have V2 : AI Z h57_ a2 .int [(.int 65), (.int 95), (.int 97), (.int 192), (.int 216), (.int 248), (.int 880), (.int 895), (.int 8204), (.int 0), (.int 0), (.int 0), (.int 0), (.int 0), (.int 0)] := V2
  refine Ok.dup cx at_58 rfl 59 rfl ?_
  refine Ok.bipush cx at_59 61 rfl (9 : Int32) rfl ?_
  refine Ok.sipush cx at_61 64 rfl (8304 : Int32) rfl ?_
  refine Ok.iastore cx at_64 V2 (9) rfl (by simp) (by first | assumption | omega) 65 rfl fun h64_ W64 G64 => ?_
  have Z0 := Nat.le_trans Z0 (Nat.le_of_eq W64.size.symm)
  have V2 := G64
  have V2 : AI Z h64_ a2 .int [(.int 65), (.int 95), (.int 97), (.int 192), (.int 216), (.int 248), (.int 880), (.int 895), (.int 8204), (.int 8304), (.int 0), (.int 0), (.int 0), (.int 0), (.int 0)] := V2
  refine Ok.dup cx at_65 rfl 66 rfl ?_
  refine Ok.bipush cx at_66 68 rfl (10 : Int32) rfl ?_
  refine Ok.sipush cx at_68 71 rfl (11264 : Int32) rfl ?_
  refine Ok.iastore cx at_71 V2 (10) rfl (by simp) (by first | assumption | omega) 72 rfl fun h71_ W71 G71 => ?_
  have Z0 := Nat.le_trans Z0 (Nat.le_of_eq W71.size.symm)
  have V2 := G71
  have V2 : AI Z h71_ a2 .int [(.int 65), (.int 95), (.int 97), (.int 192), (.int 216), (.int 248), (.int 880), (.int 895), (.int 8204), (.int 8304), (.int 11264), (.int 0), (.int 0), (.int 0), (.int 0)] := V2
  refine Ok.dup cx at_72 rfl 73 rfl ?_
  refine Ok.bipush cx at_73 75 rfl (11 : Int32) rfl ?_
  refine Ok.sipush cx at_75 78 rfl (12289 : Int32) rfl ?_
  refine Ok.iastore cx at_78 V2 (11) rfl (by simp) (by first | assumption | omega) 79 rfl fun h78_ W78 G78 => ?_
  have Z0 := Nat.le_trans Z0 (Nat.le_of_eq W78.size.symm)
  have V2 := G78
  have V2 : AI Z h78_ a2 .int [(.int 65), (.int 95), (.int 97), (.int 192), (.int 216), (.int 248), (.int 880), (.int 895), (.int 8204), (.int 8304), (.int 11264), (.int 12289), (.int 0), (.int 0), (.int 0)] := V2
  refine Ok.dup cx at_79 rfl 80 rfl ?_
  refine Ok.bipush cx at_80 82 rfl (12 : Int32) rfl ?_
  refine Ok.ldc cx (own_w hw 1 rfl) at_82 84 rfl ?_
  refine Ok.iastore cx at_84 V2 (12) rfl (by simp) (by first | assumption | omega) 85 rfl fun h84_ W84 G84 => ?_
  have Z0 := Nat.le_trans Z0 (Nat.le_of_eq W84.size.symm)
  have V2 := G84
  have V2 : AI Z h84_ a2 .int [(.int 65), (.int 95), (.int 97), (.int 192), (.int 216), (.int 248), (.int 880), (.int 895), (.int 8204), (.int 8304), (.int 11264), (.int 12289), (.int 63744), (.int 0), (.int 0)] := V2
  refine Ok.dup cx at_85 rfl 86 rfl ?_
  refine Ok.bipush cx at_86 88 rfl (13 : Int32) rfl ?_
  refine Ok.ldc cx (own_w hw 2 rfl) at_88 90 rfl ?_
  refine Ok.iastore cx at_90 V2 (13) rfl (by simp) (by first | assumption | omega) 91 rfl fun h90_ W90 G90 => ?_
  have Z0 := Nat.le_trans Z0 (Nat.le_of_eq W90.size.symm)
  have V2 := G90
  have V2 : AI Z h90_ a2 .int [(.int 65), (.int 95), (.int 97), (.int 192), (.int 216), (.int 248), (.int 880), (.int 895), (.int 8204), (.int 8304), (.int 11264), (.int 12289), (.int 63744), (.int 65008), (.int 0)] := V2
  refine Ok.dup cx at_91 rfl 92 rfl ?_
  refine Ok.bipush cx at_92 94 rfl (14 : Int32) rfl ?_
  refine Ok.ldc cx (own_w hw 3 rfl) at_94 96 rfl ?_
  refine Ok.iastore cx at_96 V2 (14) rfl (by simp) (by first | assumption | omega) 97 rfl fun h96_ W96 G96 => ?_
  have Z0 := Nat.le_trans Z0 (Nat.le_of_eq W96.size.symm)
  have V2 := G96
  have V2 : AI Z h96_ a2 .int [(.int 65), (.int 95), (.int 97), (.int 192), (.int 216), (.int 248), (.int 880), (.int 895), (.int 8204), (.int 8304), (.int 11264), (.int 12289), (.int 63744), (.int 65008), (.int 65536)] := V2
  refine Ok.astoreN cx at_97 rfl One.u [.val (.int p0), .val (.int p1), .val (.ref a2), .unset, .unset, .unset, .unset] rfl 98 rfl ?_
  refine Ok.bipush cx at_98 100 rfl (15 : Int32) rfl ?_
  refine Ok.newarray cx (own_w hw 0 rfl) at_100 rfl (15) rfl (by omega) 15 (by omega) (by omega) (by decide) (by decide) 102 rfl fun h100_ a100 g100 E100 V100 => ?_
  have za100 : n0 ≤ a100 := by rw [g100]; exact Z0
  have ne_a2_a100 : a2 ≠ a100 := by rw [g100]; exact Nat.ne_of_lt V2.lt
  have Z0 := Nat.le_trans Z0 E100.1
  have V2 := V2.ext E100
  refine Ok.dup cx at_102 rfl 103 rfl ?_
  refine Ok.iconst cx at_103 104 rfl (0 : Int32) rfl ?_
  refine Ok.bipush cx at_104 106 rfl (90 : Int32) rfl ?_
  refine Ok.iastore cx at_106 V100 (0) rfl (by simp) (by first | assumption | omega) 107 rfl fun h106_ W106 G106 => ?_
  have Z0 := Nat.le_trans Z0 (Nat.le_of_eq W106.size.symm)
  have V2 := V2.other W106 (by first | assumption | (apply Ne.symm; assumption))
  have V100 := G106
  have V100 : AI Z h106_ a100 .int [(.int 90), (.int 0), (.int 0), (.int 0), (.int 0), (.int 0), (.int 0), (.int 0), (.int 0), (.int 0), (.int 0), (.int 0), (.int 0), (.int 0), (.int 0)] := V100
  refine Ok.dup cx at_107 rfl 108 rfl ?_
  refine Ok.iconst cx at_108 109 rfl (1 : Int32) rfl ?_
  refine Ok.bipush cx at_109 111 rfl (95 : Int32) rfl ?_
  refine Ok.iastore cx at_111 V100 (1) rfl (by simp) (by first | assumption | omega) 112 rfl fun h111_ W111 G111 => ?_
  have Z0 := Nat.le_trans Z0 (Nat.le_of_eq W111.size.symm)
  have V2 := V2.other W111 (by first | assumption | (apply Ne.symm; assumption))
  have V100 := G111
  have V100 : AI Z h111_ a100 .int [(.int 90), (.int 95), (.int 0), (.int 0), (.int 0), (.int 0), (.int 0), (.int 0), (.int 0), (.int 0), (.int 0), (.int 0), (.int 0), (.int 0), (.int 0)] := V100
  refine Ok.dup cx at_112 rfl 113 rfl ?_
  refine Ok.iconst cx at_113 114 rfl (2 : Int32) rfl ?_
  refine Ok.bipush cx at_114 116 rfl (122 : Int32) rfl ?_
  refine Ok.iastore cx at_116 V100 (2) rfl (by simp) (by first | assumption | omega) 117 rfl fun h116_ W116 G116 => ?_
  have Z0 := Nat.le_trans Z0 (Nat.le_of_eq W116.size.symm)
  have V2 := V2.other W116 (by first | assumption | (apply Ne.symm; assumption))
  have V100 := G116
  have V100 : AI Z h116_ a100 .int [(.int 90), (.int 95), (.int 122), (.int 0), (.int 0), (.int 0), (.int 0), (.int 0), (.int 0), (.int 0), (.int 0), (.int 0), (.int 0), (.int 0), (.int 0)] := V100
  refine Ok.dup cx at_117 rfl 118 rfl ?_
  refine Ok.iconst cx at_118 119 rfl (3 : Int32) rfl ?_
  refine Ok.sipush cx at_119 122 rfl (214 : Int32) rfl ?_
  refine Ok.iastore cx at_122 V100 (3) rfl (by simp) (by first | assumption | omega) 123 rfl fun h122_ W122 G122 => ?_
  have Z0 := Nat.le_trans Z0 (Nat.le_of_eq W122.size.symm)
  have V2 := V2.other W122 (by first | assumption | (apply Ne.symm; assumption))
  have V100 := G122
  have V100 : AI Z h122_ a100 .int [(.int 90), (.int 95), (.int 122), (.int 214), (.int 0), (.int 0), (.int 0), (.int 0), (.int 0), (.int 0), (.int 0), (.int 0), (.int 0), (.int 0), (.int 0)] := V100
  refine Ok.dup cx at_123 rfl 124 rfl ?_
  refine Ok.iconst cx at_124 125 rfl (4 : Int32) rfl ?_
  refine Ok.sipush cx at_125 128 rfl (246 : Int32) rfl ?_
  refine Ok.iastore cx at_128 V100 (4) rfl (by simp) (by first | assumption | omega) 129 rfl fun h128_ W128 G128 => ?_
  have Z0 := Nat.le_trans Z0 (Nat.le_of_eq W128.size.symm)
  have V2 := V2.other W128 (by first | assumption | (apply Ne.symm; assumption))
  have V100 := G128
  have V100 : AI Z h128_ a100 .int [(.int 90), (.int 95), (.int 122), (.int 214), (.int 246), (.int 0), (.int 0), (.int 0), (.int 0), (.int 0), (.int 0), (.int 0), (.int 0), (.int 0), (.int 0)] := V100
  refine Ok.dup cx at_129 rfl 130 rfl ?_
  refine Ok.iconst cx at_130 131 rfl (5 : Int32) rfl ?_
  refine Ok.sipush cx at_131 134 rfl (767 : Int32) rfl ?_
  refine Ok.iastore cx at_134 V100 (5) rfl (by simp) (by first | assumption | omega) 135 rfl fun h134_ W134 G134 => ?_
  have Z0 := Nat.le_trans Z0 (Nat.le_of_eq W134.size.symm)
  have V2 := V2.other W134 (by first | assumption | (apply Ne.symm; assumption))
  have V100 := G134
  have V100 : AI Z h134_ a100 .int [(.int 90), (.int 95), (.int 122), (.int 214), (.int 246), (.int 767), (.int 0), (.int 0), (.int 0), (.int 0), (.int 0), (.int 0), (.int 0), (.int 0), (.int 0)] := V100
  refine Ok.dup cx at_135 rfl 136 rfl ?_
  refine Ok.bipush cx at_136 138 rfl (6 : Int32) rfl ?_
  refine Ok.sipush cx at_138 141 rfl (893 : Int32) rfl ?_
  refine Ok.iastore cx at_141 V100 (6) rfl (by simp) (by first | assumption | omega) 142 rfl fun h141_ W141 G141 => ?_
  have Z0 := Nat.le_trans Z0 (Nat.le_of_eq W141.size.symm)
  have V2 := V2.other W141 (by first | assumption | (apply Ne.symm; assumption))
  have V100 := G141
  have V100 : AI Z h141_ a100 .int [(.int 90), (.int 95), (.int 122), (.int 214), (.int 246), (.int 767), (.int 893), (.int 0), (.int 0), (.int 0), (.int 0), (.int 0), (.int 0), (.int 0), (.int 0)] := V100
  refine Ok.dup cx at_142 rfl 143 rfl ?_
  refine Ok.bipush cx at_143 145 rfl (7 : Int32) rfl ?_
  refine Ok.sipush cx at_145 148 rfl (8191 : Int32) rfl ?_
  refine Ok.iastore cx at_148 V100 (7) rfl (by simp) (by first | assumption | omega) 149 rfl fun h148_ W148 G148 => ?_
  have Z0 := Nat.le_trans Z0 (Nat.le_of_eq W148.size.symm)
  have V2 := V2.other W148 (by first | assumption | (apply Ne.symm; assumption))
  have V100 := G148
  have V100 : AI Z h148_ a100 .int [(.int 90), (.int 95), (.int 122), (.int 214), (.int 246), (.int 767), (.int 893), (.int 8191), (.int 0), (.int 0), (.int 0), (.int 0), (.int 0), (.int 0), (.int 0)] := V100
  refine Ok.dup cx at_149 rfl 150 rfl ?_
  refine Ok.bipush cx at_150 152 rfl (8 : Int32) rfl ?_
  refine Ok.sipush cx at_152 155 rfl (8205 : Int32) rfl ?_
  refine Ok.iastore cx at_155 V100 (8) rfl (by simp) (by first | assumption | omega) 156 rfl fun h155_ W155 G155 => ?_
  have Z0 := Nat.le_trans Z0 (Nat.le_of_eq W155.size.symm)
  have V2 := V2.other W155 (by first | assumption | (apply Ne.symm; assumption))
  have V100 := G155
  have V100 : AI Z h155_ a100 .int [(.int 90), (.int 95), (.int 122), (.int 214), (.int 246), (.int 767), (.int 893), (.int 8191), (.int 8205), (.int 0), (.int 0), (.int 0), (.int 0), (.int 0), (.int 0)] := V100
  refine Ok.dup cx at_156 rfl 157 rfl ?_
  refine Ok.bipush cx at_157 159 rfl (9 : Int32) rfl ?_
  refine Ok.sipush cx at_159 162 rfl (8591 : Int32) rfl ?_
  refine Ok.iastore cx at_162 V100 (9) rfl (by simp) (by first | assumption | omega) 163 rfl fun h162_ W162 G162 => ?_
  have Z0 := Nat.le_trans Z0 (Nat.le_of_eq W162.size.symm)
  have V2 := V2.other W162 (by first | assumption | (apply Ne.symm; assumption))
  have V100 := G162
  have V100 : AI Z h162_ a100 .int [(.int 90), (.int 95), (.int 122), (.int 214), (.int 246), (.int 767), (.int 893), (.int 8191), (.int 8205), (.int 8591), (.int 0), (.int 0), (.int 0), (.int 0), (.int 0)] := V100
  refine Ok.dup cx at_163 rfl 164 rfl ?_
  refine Ok.bipush cx at_164 166 rfl (10 : Int32) rfl ?_
  refine Ok.sipush cx at_166 169 rfl (12271 : Int32) rfl ?_
  refine Ok.iastore cx at_169 V100 (10) rfl (by simp) (by first | assumption | omega) 170 rfl fun h169_ W169 G169 => ?_
  have Z0 := Nat.le_trans Z0 (Nat.le_of_eq W169.size.symm)
  have V2 := V2.other W169 (by first | assumption | (apply Ne.symm; assumption))
  have V100 := G169
  have V100 : AI Z h169_ a100 .int [(.int 90), (.int 95), (.int 122), (.int 214), (.int 246), (.int 767), (.int 893), (.int 8191), (.int 8205), (.int 8591), (.int 12271), (.int 0), (.int 0), (.int 0), (.int 0)] := V100
  refine Ok.dup cx at_170 rfl 171 rfl ?_
  refine Ok.bipush cx at_171 173 rfl (11 : Int32) rfl ?_
  refine Ok.ldc cx (own_w hw 4 rfl) at_173 175 rfl ?_
  refine Ok.iastore cx at_175 V100 (11) rfl (by simp) (by first | assumption | omega) 176 rfl fun h175_ W175 G175 => ?_
  have Z0 := Nat.le_trans Z0 (Nat.le_of_eq W175.size.symm)
  have V2 := V2.other W175 (by first | assumption | (apply Ne.symm; assumption))
  have V100 := G175
  have V100 : AI Z h175_ a100 .int [(.int 90), (.int 95), (.int 122), (.int 214), (.int 246), (.int 767), (.int 893), (.int 8191), (.int 8205), (.int 8591), (.int 12271), (.int 55295), (.int 0), (.int 0), (.int 0)] := V100
  refine Ok.dup cx at_176 rfl 177 rfl ?_
  refine Ok.bipush cx at_177 179 rfl (12 : Int32) rfl ?_
  refine Ok.ldc cx (own_w hw 5 rfl) at_179 181 rfl ?_
  refine Ok.iastore cx at_181 V100 (12) rfl (by simp) (by first | assumption | omega) 182 rfl fun h181_ W181 G181 => ?_
  have Z0 := Nat.le_trans Z0 (Nat.le_of_eq W181.size.symm)
  have V2 := V2.other W181 (by first | assumption | (apply Ne.symm; assumption))
  have V100 := G181
  have V100 : AI Z h181_ a100 .int [(.int 90), (.int 95), (.int 122), (.int 214), (.int 246), (.int 767), (.int 893), (.int 8191), (.int 8205), (.int 8591), (.int 12271), (.int 55295), (.int 64975), (.int 0), (.int 0)] := V100
  refine Ok.dup cx at_182 rfl 183 rfl ?_
  refine Ok.bipush cx at_183 185 rfl (13 : Int32) rfl ?_
  refine Ok.ldc cx (own_w hw 6 rfl) at_185 187 rfl ?_
  refine Ok.iastore cx at_187 V100 (13) rfl (by simp) (by first | assumption | omega) 188 rfl fun h187_ W187 G187 => ?_
  have Z0 := Nat.le_trans Z0 (Nat.le_of_eq W187.size.symm)
  have V2 := V2.other W187 (by first | assumption | (apply Ne.symm; assumption))
  have V100 := G187
  have V100 : AI Z h187_ a100 .int [(.int 90), (.int 95), (.int 122), (.int 214), (.int 246), (.int 767), (.int 893), (.int 8191), (.int 8205), (.int 8591), (.int 12271), (.int 55295), (.int 64975), (.int 65533), (.int 0)] := V100
  refine Ok.dup cx at_188 rfl 189 rfl ?_
  refine Ok.bipush cx at_189 191 rfl (14 : Int32) rfl ?_
  refine Ok.ldc cx (own_w hw 7 rfl) at_191 193 rfl ?_
  refine Ok.iastore cx at_193 V100 (14) rfl (by simp) (by first | assumption | omega) 194 rfl fun h193_ W193 G193 => ?_
  have Z0 := Nat.le_trans Z0 (Nat.le_of_eq W193.size.symm)
  have V2 := V2.other W193 (by first | assumption | (apply Ne.symm; assumption))
  have V100 := G193
  have V100 : AI Z h193_ a100 .int [(.int 90), (.int 95), (.int 122), (.int 214), (.int 246), (.int 767), (.int 893), (.int 8191), (.int 8205), (.int 8591), (.int 12271), (.int 55295), (.int 64975), (.int 65533), (.int 983039)] := V100
  refine Ok.astoreN cx at_194 rfl One.u [.val (.int p0), .val (.int p1), .val (.ref a2), .val (.ref a100), .unset, .unset, .unset] rfl 195 rfl ?_
  refine Ok.iloadN cx at_195 rfl 196 rfl ?_
  refine Ok.ldc cx (own_w hw 8 rfl) at_196 198 rfl ?_
  refine Ok.iand cx at_198 199 rfl fun t198 e198 => ?_
  refine Ok.bipush cx at_199 201 rfl (15 : Int32) rfl ?_
  refine Ok.irem cx at_201 (by decide) 202 rfl fun t201 e201 => ?_
  refine Ok.istore cx at_202 rfl One.u [.val (.int p0), .val (.int p1), .val (.ref a2), .val (.ref a100), .val (.int t201), .unset, .unset] rfl 204 rfl ?_
  have m198 := c_mask p1 2147483647 31 (by decide) (by decide); rw [← e198] at m198
  have m201 := c_irem t198 15 15 rfl; rw [← e201] at m201
  obtain ⟨i, hi, hi15⟩ : ∃ i : Nat, t201.toInt = i ∧ i < 15 := ⟨t201.toInt.toNat, by omega, by omega⟩
  obtain ⟨x, y, hx, hy, n1, n2, n3, n4⟩ := own_edge i hi15
  refine Ok.aloadN cx at_204 rfl 205 rfl ?_
  refine Ok.iload cx at_205 rfl 207 rfl ?_
  refine Ok.iaload cx at_207 V2 (i) hi (v := (.int x)) hx 208 rfl ?_
  refine Ok.callStatic cx [(.int x)] [] rfl (own_w hw 9 rfl) (own_w hw 10 rfl) (own_w hw 11 rfl) (own_w hw 12 rfl) at_208 (by decide) pd_0 rfl rfl  (rm_1 W.l Z a0 hw x h193_ n0 Z0) (by decide) 0 rfl (by decide) (by decide) (by decide) 211 rfl fun v208 h208_ q208 => ?_
  obtain ⟨rfl, r208, rfl, hr208⟩ := q208
  show Ok _ _ _ _ _ _ _ _ _ [(.int r208)]
  refine Ok.if_eq cx at_211 252 214 (by decide) rfl (fun c211 => by exfalso; rcases hr208 with ⟨z, -⟩ | ⟨-, z⟩; omega; exact z n1) (fun c211 => ?_)
  refine Ok.aloadN cx at_214 rfl 215 rfl ?_
  refine Ok.iload cx at_215 rfl 217 rfl ?_
  refine Ok.iaload cx at_217 V2 (i) hi (v := (.int x)) hx 218 rfl ?_
  refine Ok.iconst cx at_218 219 rfl (1 : Int32) rfl ?_
  refine Ok.isub cx at_219 220 rfl fun t219 e219 => ?_
  refine Ok.callStatic cx [(.int t219)] [] rfl (own_w hw 9 rfl) (own_w hw 10 rfl) (own_w hw 11 rfl) (own_w hw 12 rfl) at_220 (by decide) pd_0 rfl rfl  (rm_1 W.l Z a0 hw t219 h193_ n0 Z0) (by decide) 0 rfl (by decide) (by decide) (by decide) 223 rfl fun v220 h220_ q220 => ?_
  obtain ⟨rfl, r220, rfl, hr220⟩ := q220
  show Ok _ _ _ _ _ _ _ _ _ [(.int r220)]
  refine Ok.if_ne cx at_223 252 226 (by decide) rfl (fun c223 => by exfalso; rcases hr220 with ⟨-, z⟩ | ⟨z, -⟩; rw [e219] at z; exact n2 z; omega) (fun c223 => ?_)
  refine Ok.aloadN cx at_226 rfl 227 rfl ?_
  refine Ok.iload cx at_227 rfl 229 rfl ?_
  refine Ok.iaload cx at_229 V100 (i) hi (v := (.int y)) hy 230 rfl ?_
  refine Ok.callStatic cx [(.int y)] [] rfl (own_w hw 9 rfl) (own_w hw 10 rfl) (own_w hw 11 rfl) (own_w hw 12 rfl) at_230 (by decide) pd_0 rfl rfl  (rm_1 W.l Z a0 hw y h193_ n0 Z0) (by decide) 0 rfl (by decide) (by decide) (by decide) 233 rfl fun v230 h230_ q230 => ?_
  obtain ⟨rfl, r230, rfl, hr230⟩ := q230
  show Ok _ _ _ _ _ _ _ _ _ [(.int r230)]
  refine Ok.if_eq cx at_233 252 236 (by decide) rfl (fun c233 => by exfalso; rcases hr230 with ⟨z, -⟩ | ⟨-, z⟩; omega; exact z n3) (fun c233 => ?_)
  refine Ok.aloadN cx at_236 rfl 237 rfl ?_
  refine Ok.iload cx at_237 rfl 239 rfl ?_
  refine Ok.iaload cx at_239 V100 (i) hi (v := (.int y)) hy 240 rfl ?_
  refine Ok.iconst cx at_240 241 rfl (1 : Int32) rfl ?_
  refine Ok.iadd cx at_241 242 rfl fun t241 e241 => ?_
  refine Ok.callStatic cx [(.int t241)] [] rfl (own_w hw 9 rfl) (own_w hw 10 rfl) (own_w hw 11 rfl) (own_w hw 12 rfl) at_242 (by decide) pd_0 rfl rfl  (rm_1 W.l Z a0 hw t241 h193_ n0 Z0) (by decide) 0 rfl (by decide) (by decide) (by decide) 245 rfl fun v242 h242_ q242 => ?_
  obtain ⟨rfl, r242, rfl, hr242⟩ := q242
  show Ok _ _ _ _ _ _ _ _ _ [(.int r242)]
  refine Ok.if_ne cx at_245 252 248 (by decide) rfl (fun c245 => by exfalso; rcases hr242 with ⟨-, z⟩ | ⟨z, -⟩; rw [e241] at z; exact n4 z; omega) (fun c245 => ?_)
  refine Ok.iconst cx at_248 249 rfl (1 : Int32) rfl ?_
  refine Ok.goto cx at_249 253 (by decide) ?_
  refine Ok.istore cx at_253 rfl One.u [.val (.int p0), .val (.int p1), .val (.ref a2), .val (.ref a100), .val (.int t201), .val (.int (1 : Int32)), .unset] rfl 255 rfl ?_
  refine Ok.iloadN cx at_255 rfl 256 rfl ?_
  refine Ok.callStatic cx [(.int p0)] [] rfl (own_w hw 9 rfl) (own_w hw 10 rfl) (own_w hw 11 rfl) (own_w hw 12 rfl) at_256 (by decide) pd_0 rfl rfl  (rm_1 W.l Z a0 hw p0 h193_ n0 Z0) (by decide) 0 rfl (by decide) (by decide) (by decide) 259 rfl fun v256 h256_ q256 => ?_
  obtain ⟨rfl, r256, rfl, hr256⟩ := q256
  show Ok _ _ _ _ _ _ _ _ _ [(.int r256)]
  refine Ok.iloadN cx at_259 rfl 260 rfl ?_
  refine Ok.callStatic cx [(.int p0)] [(.int r256)] rfl (own_w hw 16 rfl) (own_w hw 17 rfl) (own_w hw 18 rfl) (own_w hw 19 rfl) at_260 (by decide) pd_0 rfl rfl  (rm_2 W.l Z a0 hw p0 h193_ n0 Z0) (by decide) 1 rfl (by decide) (by decide) (by decide) 263 rfl fun v260 h260_ q260 => ?_
  obtain ⟨rfl, r260, rfl, hr260⟩ := q260
  show Ok _ _ _ _ _ _ _ _ _ [(.int r260), (.int r256)]
  refine Ok.if_ne cx at_263 270 266 (by decide) rfl (fun c263 => ?_) (fun c263 => ?_)
  · skip
    refine Ok.iconst cx at_270 271 rfl (0 : Int32) rfl ?_
    refine Ok.icmp_ne cx at_271 278 274 (by decide) rfl (fun c271 => by exfalso; rcases own_both p0.toInt with ⟨b1, b2⟩ | ⟨b1, b2⟩ <;> rcases hr256 with ⟨z, z'⟩ | ⟨z, z'⟩ <;> rcases hr260 with ⟨u, u'⟩ | ⟨u, u'⟩ <;> first | exact b1 z' | exact z' b1 | exact b2 u' | exact u' b2 | omega) (fun c271 => ?_)
    refine Ok.iconst cx at_274 275 rfl (1 : Int32) rfl ?_
    refine Ok.goto cx at_275 279 (by decide) ?_
    refine Ok.istore cx at_279 rfl One.u [.val (.int p0), .val (.int p1), .val (.ref a2), .val (.ref a100), .val (.int t201), .val (.int (1 : Int32)), .val (.int (1 : Int32))] rfl 281 rfl ?_
    refine Ok.iload cx at_281 rfl 283 rfl ?_
    refine Ok.if_eq cx at_283 295 286 (by decide) rfl (fun c283 => by exfalso; omega) (fun c283 => ?_)
    refine Ok.iload cx at_286 rfl 288 rfl ?_
    refine Ok.if_eq cx at_288 295 291 (by decide) rfl (fun c288 => by exfalso; omega) (fun c288 => ?_)
    refine Ok.iconst cx at_291 292 rfl (1 : Int32) rfl ?_
    refine Ok.goto cx at_292 296 (by decide) ?_
    exact Ok.zreturn cx at_296 (by decide) (by decide) rfl
  · skip
    refine Ok.iconst cx at_266 267 rfl (1 : Int32) rfl ?_
    refine Ok.goto cx at_267 271 (by decide) ?_
    refine Ok.icmp_ne cx at_271 278 274 (by decide) rfl (fun c271 => by exfalso; rcases own_both p0.toInt with ⟨b1, b2⟩ | ⟨b1, b2⟩ <;> rcases hr256 with ⟨z, z'⟩ | ⟨z, z'⟩ <;> rcases hr260 with ⟨u, u'⟩ | ⟨u, u'⟩ <;> first | exact b1 z' | exact z' b1 | exact b2 u' | exact u' b2 | omega) (fun c271 => ?_)
    refine Ok.iconst cx at_274 275 rfl (1 : Int32) rfl ?_
    refine Ok.goto cx at_275 279 (by decide) ?_
    refine Ok.istore cx at_279 rfl One.u [.val (.int p0), .val (.int p1), .val (.ref a2), .val (.ref a100), .val (.int t201), .val (.int (1 : Int32)), .val (.int (1 : Int32))] rfl 281 rfl ?_
    refine Ok.iload cx at_281 rfl 283 rfl ?_
    refine Ok.if_eq cx at_283 295 286 (by decide) rfl (fun c283 => by exfalso; omega) (fun c283 => ?_)
    refine Ok.iload cx at_286 rfl 288 rfl ?_
    refine Ok.if_eq cx at_288 295 291 (by decide) rfl (fun c288 => by exfalso; omega) (fun c288 => ?_)
    refine Ok.iconst cx at_291 292 rfl (1 : Int32) rfl ?_
    refine Ok.goto cx at_292 296 (by decide) ?_
    exact Ok.zreturn cx at_296 (by decide) (by decide) rfl
set_option maxRecDepth 65536 in
set_option maxHeartbeats 40000000 in
theorem comes_1 {Post : Tables → Env → Array Value → State → Outcome → State → Prop} (hpost : ∀ tb e args s v u, (limb_1_1.after args s (.returned v) u = true ∧ limb_1_2.after args s (.returned v) u = true ∧ True) → FrameEnd s (.returned v) u (Jvm.fieldLocs frame_1_writes args s ++ Jvm.arrayLocs frame_1_arrays args s ++ Jvm.staticLocs frame_1_statics s) 16 128 → Post tb e args s (.returned v) u) :
    ArmFor flags0 classFile x code maxLocals ret World_1 tables_1 room_1 Calls_1 rest_1 Pre_1 Post := by
  intro l hfl _ _ p e ha hc hk s m args below hf hA hF happ hP
  obtain ⟨hcalls, hrest, hpre⟩ := hP
  obtain ⟨-, -, -, hnamed, -, -, -, hat⟩ := (Spec.applies_iff hf).mp happ
  obtain ⟨hg, hn⟩ := and_e (Cond.before_iff.mp (show (Jvm.Cond.and given_1 narrow_1).before args s = true from hpre))
  obtain ⟨hcount, g0⟩ := and_e hg
  obtain ⟨b0, g1⟩ := and_e g0
  have b1 := g1
  obtain ⟨w0, w1, rfl⟩ : ∃ w0 w1 : Value, args = #[w0, w1] := by
    have hs : args.size = 2 := by simpa [Cond.value, given_1] using hcount
    obtain ⟨L⟩ := args
    match L, hs with
    | [w0, w1], _ => exact ⟨w0, w1, rfl⟩
  have hw := fun d (hd : d ∈ tables_1) => atoms_spec (ws := Jvm.Cond.code x code maxLocals ret :: tables_1) hat d (List.mem_cons_of_mem _ hd)
  obtain ⟨i0, q0⟩ := is_v b0
  obtain rfl : w0 = (.int i0) := Option.some.inj q0
  obtain ⟨i1, q1⟩ := is_v b1
  obtain rfl : w1 = (.int i1) := Option.some.inj q1
  obtain ⟨n, o, h1, h2, h3, _, L, rfl, ⟨rfl, N⟩, hq⟩ := rm_0 l s _ hw i0 i1 s.heap s.heap.size (Nat.le_refl _) p e ha hc hk s m _ below hf ((Spec.applies_iff_loose hf).mp happ).1 ⟨rfl, State.Warmed39.refl s, rfl⟩ trivial
  refine ⟨n, _, h1, h2, h3, hpost _ _ _ _ _ _ ⟨Cond.after_iff.mpr rfl, Cond.after_iff.mpr (eq_i res_at (Term.int_eval (1)) rfl), trivial⟩ ⟨hq.1, hq.2.1, (hq.2.2.sift fun y hy => Or.inr (N y hy)).mono (by decide) (by decide)⟩⟩
theorem main_1_1 : Claimed_1_1 := comes_1 fun _ _ _ _ _ _ h hF => ⟨h.1, hF⟩
theorem main_1_2 : Claimed_1_2 := comes_1 fun _ _ _ _ _ _ h hF => ⟨h.2.1, hF⟩
end Jvm.Pilot.@@N@@
namespace Jvm.Pilot.@@N@@
open Jvm Jvm.ClassFile Sem Op Lib Jvm.Free Jvm.Stand Jvm.Pilot.@@N@@.Jvm.D
/-! MADE BY PROGRAM (witnessworld.py) out of the Statement's table words and the real class files: 9 classes; the members and pool entries that the words name. The judged class is class 1, her method 2. -/
namespace start1
open Jvm.ClassFile
def u (s : String) : CpInfo := .utf8 (stringToUtf16 s)
/-- a pool by its gaps: so many unusable entries, then the entry; so many at the end -/
def gap : Nat → List CpInfo → List CpInfo
  | 0, r => r
  | n + 1, r => .unusable :: gap n r
def poolList (es : List (Nat × CpInfo)) (last : Nat) : List CpInfo := es.foldr (fun e r => gap e.1 (e.2 :: r)) (gap last [])
def pool (es : List (Nat × CpInfo)) (last : Nat) : Array CpInfo := ⟨poolList es last⟩
def fileOf (pool : Array CpInfo) (this : Nat) (attrs : Array Attribute := #[]) (ms : Array MethodInfo := #[]) (fl : Nat := 33) (sup : Nat := 0) (ifs : Array Nat := #[]) (fds : Array FieldInfo := #[]) : ClassFile where
  minorVersion := 0
  majorVersion := 65
  constantPool := pool
  accessFlags := fl
  thisClass := this
  superClass := sup
  interfaces := ifs
  fields := fds
  methods := ms
  attributes := attrs
def plain (name : String) (sup : Option ClassId) : Class where
  name := name
  kind := .ordinary
  loader := none
  accessFlags := 33
  super := sup
  interfaces := #[]
  cf := none
  fields := #[]
  methods := #[]
  instanceTypes := #[]
  staticTypes := #[]
  resolved := #[]
  callSites := []
  init := .initialized
  statics := none
  mirror := none

def pool0 : Array CpInfo := pool [(5, u "<init>"), (0, u "()V"), (1, .class_ 10), (1, u "java/lang/Object")] 113

def k0m0 : Method := { name := "<init>", desc := "()V", sig := { parameters := [], returnType := none }, accessFlags := 1, code := none }
/-- java/lang/Object -/
def k0 : Class := { plain "java/lang/Object" none with
  accessFlags := 33
  interfaces := #[]
  cf := some (fileOf pool0 8 #[] #[{ accessFlags := 1, nameIndex := 5, descriptorIndex := 6, attributes := #[] }] 33 0 #[] #[])
  fields := #[]
  methods := #[k0m0]
  instanceTypes := #[]
  staticTypes := #[]
  resolved := Array.replicate 124 none
  statics := none }

def pool1 : Array CpInfo := pool [(2, .class_ 4), (1, u "java/lang/Object"), (0, u "<init>"), (0, u "()V"), (0, .integer 55296), (0, .integer 63743), (0, .integer 64976), (0, .integer 65007), (0, .integer 65534), (0, .integer 65535), (0, .integer 983039), (0, .integer 63744), (0, .integer 65008), (0, .integer 65536), (0, .integer 55295), (0, .integer 64975), (0, .integer 65533), (0, .integer 2147483647), (0, .methodref 22 23), (0, .class_ 24), (0, .nameAndType 25 26), (0, u "com/example/twigwright/twigwright/XmlName"), (0, u "isNameStart"), (0, u "(I)Z"), (0, .methodref 28 29), (0, .class_ 30), (0, .nameAndType 31 26), (0, u "com/example/twigwright/twigwright/XmlNameIsNameStartPinLaw"), (0, u "excluded"), (3, u "law"), (0, u "(II)Z")] 4

def k1m0 : Method := { name := "<init>", desc := "()V", sig := { parameters := [], returnType := none }, accessFlags := 1, code := none }
def k1c1 : Code := { maxStack := 2, maxLocals := 1, code := method_2_code, exceptionTable := #[], attributes := #[] }
def k1m1 : Method := { name := "excluded", desc := "(I)Z", sig := { parameters := [.int], returnType := some .boolean }, accessFlags := 10, code := some k1c1 }
def k1c2 : Code := { maxStack := 4, maxLocals := 7, code := code, exceptionTable := #[], attributes := #[] }
def k1m2 : Method := { name := "law", desc := "(II)Z", sig := { parameters := [.int, .int], returnType := some .boolean }, accessFlags := 9, code := some k1c2 }
/-- com/example/twigwright/twigwright/XmlNameIsNameStartPinLaw -/
def k1 : Class := { plain "com/example/twigwright/twigwright/XmlNameIsNameStartPinLaw" (some 0) with
  accessFlags := 49
  interfaces := #[]
  cf := some (fileOf pool1 28 #[] #[{ accessFlags := 1, nameIndex := 5, descriptorIndex := 6, attributes := #[] }, { accessFlags := 10, nameIndex := 31, descriptorIndex := 26, attributes := #[] }, { accessFlags := 9, nameIndex := 35, descriptorIndex := 36, attributes := #[] }] 49 2 #[] #[])
  fields := #[]
  methods := #[k1m0, k1m1, k1m2]
  instanceTypes := #[]
  staticTypes := #[]
  resolved := Array.replicate 41 none
  statics := none }

def pool2 : Array CpInfo := pool [(2, .class_ 4), (1, u "java/lang/Object"), (0, u "<init>"), (0, u "()V"), (1, .class_ 10), (1, u "com/example/twigwright/twigwright/XmlName"), (18, u "ASCII"), (0, u "[B"), (6, u "isNameStart"), (0, u "(I)Z"), (8, .integer 55295), (0, .integer 63744), (0, .integer 64975), (0, .integer 65008), (0, .integer 65533), (0, .integer 65536), (0, .integer 983039), (0, u "START"), (0, u "I"), (2, u "AFTER_FIRST")] 10

def k2m0 : Method := { name := "<init>", desc := "()V", sig := { parameters := [], returnType := none }, accessFlags := 2, code := none }
def k2c1 : Code := { maxStack := 2, maxLocals := 1, code := prog_129_method_5_code, exceptionTable := #[], attributes := #[] }
def k2m1 : Method := { name := "isNameStart", desc := "(I)Z", sig := { parameters := [.int], returnType := some .boolean }, accessFlags := 8, code := some k2c1 }
/-- com/example/twigwright/twigwright/XmlName -/
def k2 : Class := { plain "com/example/twigwright/twigwright/XmlName" (some 0) with
  accessFlags := 48
  interfaces := #[]
  cf := some (fileOf pool2 8 #[] #[{ accessFlags := 2, nameIndex := 5, descriptorIndex := 6, attributes := #[] }, { accessFlags := 8, nameIndex := 37, descriptorIndex := 38, attributes := #[] }] 48 2 #[] #[{ accessFlags := 26, nameIndex := 54, descriptorIndex := 55, attributes := #[] }, { accessFlags := 26, nameIndex := 58, descriptorIndex := 55, attributes := #[] }, { accessFlags := 26, nameIndex := 29, descriptorIndex := 30, attributes := #[] }])
  fields := #[{ name := "START", type := .int, accessFlags := 26, slot := 0, constantValue := 0 }, { name := "AFTER_FIRST", type := .int, accessFlags := 26, slot := 1, constantValue := 0 }, { name := "ASCII", type := (.array .byte), accessFlags := 26, slot := 2, constantValue := 0 }]
  methods := #[k2m0, k2m1]
  instanceTypes := #[]
  staticTypes := #[.int, .int, (.array .byte)]
  resolved := Array.replicate 69 none
  statics := none }

def pool3 : Array CpInfo := pool [(1, u "java/lang/Cloneable"), (0, .class_ 1), (0, u "java/lang/Object"), (0, .class_ 3)] 3

/-- java/lang/Cloneable -/
def k3 : Class := { plain "java/lang/Cloneable" (some 0) with
  accessFlags := 1537
  interfaces := #[]
  cf := some (fileOf pool3 2 #[] #[] 1537 4 #[] #[])
  fields := #[]
  methods := #[]
  instanceTypes := #[]
  staticTypes := #[]
  resolved := Array.replicate 8 none
  statics := none }

def pool4 : Array CpInfo := pool [(1, u "java/io/Serializable"), (0, .class_ 1), (0, u "java/lang/Object"), (0, .class_ 3)] 3

/-- java/io/Serializable -/
def k4 : Class := { plain "java/io/Serializable" (some 0) with
  accessFlags := 1537
  interfaces := #[]
  cf := some (fileOf pool4 2 #[] #[] 1537 4 #[] #[])
  fields := #[]
  methods := #[]
  instanceTypes := #[]
  staticTypes := #[]
  resolved := Array.replicate 8 none
  statics := none }

/-- the primitive byte -/
def k5 : Class := { plain "byte" none with kind := .primitive 'B', accessFlags := 0x411 }
/-- [B -/
def k6 : Class := { plain "[B" (some 0) with kind := .array 5 .byte, interfaces := #[3, 4], accessFlags := 1041 }

/-- the primitive int -/
def k7 : Class := { plain "int" none with kind := .primitive 'I', accessFlags := 0x411 }
/-- [I -/
def k8 : Class := { plain "[I" (some 0) with kind := .array 7 .int, interfaces := #[3, 4], accessFlags := 1041 }

def heap : Heap := #[]
def classes : Array Class := #[k0, k1, k2, k3, k4, k5, k6, k7, k8]
def interned : List (Array UInt16 × Addr) := []
def slotsUsed : Nat := 0
def theMethod : MethodId := ⟨1, 2⟩
def args0 : Array Value := #[.int 70, .int 3]
def aboutOver (below : List Frame) : State where
  vm := { classes := classes, interned := interned.toArray }
  heap := heap
  slotsUsed := slotsUsed
  threads := #[{ frames := .invoking theMethod args0 :: below }]
def below0 : List Frame := [.native { method := ⟨0, 0⟩, args := #[] }]
def about1 : State := aboutOver below0
def p0 : Program := .bare "" "" ""
def e0 : Env := launch0.env 0 0 0
theorem w_frames : about1.frames = Frame.invoking theMethod args0 :: below0 := rfl
set_option maxRecDepth 65536 in
theorem w_args : argsFit about1.vm theMethod args0 = true := by decide +kernel
set_option maxRecDepth 65536 in
theorem w_heap : heapFits about1 = true := by decide +kernel
set_option maxRecDepth 65536 in
theorem w_runnable : about1.curStatus? = some .runnable := by decide +kernel
set_option maxRecDepth 65536 in
theorem w_alone : about1.alone = true := by decide +kernel
set_option maxRecDepth 65536 in
theorem w_named : about1.methodNamed? x = some theMethod := by decide +kernel
set_option maxRecDepth 65536 in
theorem w_hears : about1.hears theMethod below0 = true := by decide +kernel
set_option maxRecDepth 65536 in
theorem w_ripe : about1.ripe theMethod args0 below0 = true := by decide +kernel
theorem w_running : about1.status = .running := rfl
set_option maxRecDepth 65536 in
theorem w_room : about1.hasRoom e0.platform room_1 = true :=
  launch0.hasRoom_least _ room_1 (by decide +kernel) (by decide +kernel) (by decide +kernel) (by decide +kernel) (by decide +kernel) (by decide +kernel)
theorem allAtoms_all (ts : List Jvm.Cond) (a : Array Jvm.Value) (st : Jvm.State) : (allAtoms ts).before a st = ts.all (fun c => c.before a st) := by
  induction ts with
  | nil => rfl
  | cons c t ih =>
    show (Jvm.Cond.and c (allAtoms t)).before a st = _
    rw [Jvm.Cond.before_and, ih, List.all_cons]
def words1 : List Jvm.Cond := Jvm.Cond.code x code maxLocals ret :: tables_1
/-- a 'code' word, met by the world's own term for the bytes: nothing is compared byte by byte -/
theorem code_word {y : MethodName} {bytes : ByteArray} {mx : Nat} {rt : Option FieldType} {a : Array Value} {s : State} {m : MethodId} {meth : Method} {c : Code} (h1 : s.methodNamed? y = some m) (h2 : s.vm.method? m = some meth) (h3 : meth.code = some c) (h4 : c.code = bytes)
    (h5 : (c.maxLocals == mx && c.exceptionTable.isEmpty && decide (c.maxStack ≤ mostOperands) && decide (meth.sig.returnType = rt) && !meth.locks && decide (parseMethodDescriptor y.desc = some meth.sig)) = true) : (Jvm.Cond.code y bytes mx rt).before a s = true := by
  simp only [Bool.and_eq_true, beq_iff_eq, Bool.not_eq_true', decide_eq_true_eq] at h5
  obtain ⟨⟨⟨⟨⟨g1, g2⟩, g3⟩, g4⟩, g5⟩, g6⟩ := h5
  simp [Cond.before, Cond.holds, Cond.value, h1, h2, h3, h4, g1, g2, g3, g4, g5, g6]
def isCode : Jvm.Cond → Bool
  | .code _ _ _ _ => true
  | _ => false
theorem all_split {L : List Jvm.Cond} {P : Jvm.Cond → Bool} (h1 : L.all (fun c => isCode c || P c) = true) (h2 : ∀ c ∈ L.filter isCode, P c = true) : L.all P = true := by
  refine List.all_eq_true.mpr fun c hc => ?_
  have h := List.all_eq_true.mp h1 c hc
  rcases Bool.eq_false_or_eq_true (isCode c) with hi | hi
  · exact h2 c (List.mem_filter.mpr ⟨hc, hi⟩)
  · simpa [hi] using h
set_option maxRecDepth 65536 in
theorem w_c0 : (Jvm.Cond.code x code maxLocals ret).before args0 about1 = true := code_word (m := ⟨1, 2⟩) (meth := k1m2) (c := k1c2) (by decide +kernel) rfl rfl rfl (by decide +kernel)
set_option maxRecDepth 65536 in
theorem w_c1 : (Jvm.Cond.code ({ cls := "com/example/twigwright/twigwright/XmlName", name := "isNameStart", desc := "(I)Z" } : Jvm.MethodName) prog_129_method_5_code (1 : Nat) (Option.some Jvm.ClassFile.FieldType.boolean)).before args0 about1 = true := code_word (m := ⟨2, 1⟩) (meth := k2m1) (c := k2c1) (by decide +kernel) rfl rfl rfl (by decide +kernel)
set_option maxRecDepth 65536 in
theorem w_c2 : (Jvm.Cond.code ({ cls := "com/example/twigwright/twigwright/XmlNameIsNameStartPinLaw", name := "excluded", desc := "(I)Z" } : Jvm.MethodName) method_2_code (1 : Nat) (Option.some Jvm.ClassFile.FieldType.boolean)).before args0 about1 = true := code_word (m := ⟨1, 1⟩) (meth := k1m1) (c := k1c1) (by decide +kernel) rfl rfl rfl (by decide +kernel)
def codes1 : List Jvm.Cond := [Jvm.Cond.code x code maxLocals ret, Jvm.Cond.code ({ cls := "com/example/twigwright/twigwright/XmlName", name := "isNameStart", desc := "(I)Z" } : Jvm.MethodName) prog_129_method_5_code (1 : Nat) (Option.some Jvm.ClassFile.FieldType.boolean), Jvm.Cond.code ({ cls := "com/example/twigwright/twigwright/XmlNameIsNameStartPinLaw", name := "excluded", desc := "(I)Z" } : Jvm.MethodName) method_2_code (1 : Nat) (Option.some Jvm.ClassFile.FieldType.boolean)]
set_option maxRecDepth 65536 in
theorem codes_eq : words1.filter isCode = codes1 := rfl
theorem w_codes : ∀ c ∈ words1.filter isCode, c.before args0 about1 = true := by
  rw [codes_eq]
  intro c hc
  simp only [codes1, List.mem_cons, List.not_mem_nil, or_false] at hc
  rcases hc with rfl | rfl | rfl
  · exact w_c0
  · exact w_c1
  · exact w_c2
set_option maxRecDepth 65536 in
theorem w_t1 : (words1.take 24).all (fun c => isCode c || c.before args0 about1) = true := by decide +kernel
set_option maxRecDepth 65536 in
theorem w_t2 : (words1.drop 24).all (fun c => isCode c || c.before args0 about1) = true := by decide +kernel
theorem w_tables : (allAtoms (Jvm.Cond.code x code maxLocals ret :: tables_1)).before args0 about1 = true := by
  rw [allAtoms_all]
  show words1.all (fun c => c.before args0 about1) = true
  refine all_split ?_ w_codes
  rw [← List.take_append_drop 24 words1, List.all_append, w_t1, w_t2]
  rfl
set_option maxRecDepth 65536 in
theorem w_case : (Jvm.Cond.and given_1 narrow_1).before args0 about1 = true := by decide +kernel
theorem w_applies : (headSpec (Jvm.Cond.code x code maxLocals ret :: tables_1) room_1).applies x e0.platform about1 = true :=
  (Spec.applies_iff w_frames).mpr ⟨w_running, w_runnable, w_alone, w_named, w_hears, w_ripe, w_room, w_tables⟩
theorem atStart : AtStart classFile x code maxLocals ret World_1 tables_1 room_1 Calls_1 rest_1 Pre_1 launch0 p0 e0 about1 theMethod args0 below0 :=
  ⟨lists_1, trivial, launch0.admits_env _ _ _, launch0.least_env, fairChoices_fair.cas, fairChoices_fair.clock, w_frames, w_args, w_heap, w_applies, trivial, trivial, w_case⟩
end start1
theorem witness_1 : WitnessClaimed_1 := ⟨start1.p0, start1.e0, start1.about1, start1.theMethod, start1.args0, start1.below0, start1.atStart⟩
end Jvm.Pilot.@@N@@
