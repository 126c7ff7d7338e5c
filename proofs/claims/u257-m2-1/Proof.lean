import JvmDerived
import JvmDerived.Pilot.@@N@@Statement
import JvmDerived.Pilot.@@N@@Code
set_option linter.unusedVariables false
set_option linter.unusedSimpArgs false
namespace Jvm.Pilot.@@N@@
open Jvm Jvm.ClassFile Sem Op Lib Jvm.Free Jvm.Stand Jvm.LawKit Jvm.RoadKit Bundle Jvm.Pilot.@@N@@.Jvm.D
/-! own framework: `Ok` = 'from this frame over this heap the body comes to its end with Q'; one lemma an instruction -/
abbrev Wd : Type := Program × Launch × Env × State × MethodId × Array Value × List Frame × Method × Code
abbrev Wd.p (W : Wd) : Program := W.1
abbrev Wd.l (W : Wd) : Launch := W.2.1
abbrev Wd.e (W : Wd) : Env := W.2.2.1
abbrev Wd.s (W : Wd) : State := W.2.2.2.1
abbrev Wd.m (W : Wd) : MethodId := W.2.2.2.2.1
abbrev Wd.args (W : Wd) : Array Value := W.2.2.2.2.2.1
abbrev Wd.below (W : Wd) : List Frame := W.2.2.2.2.2.2.1
abbrev Wd.meth (W : Wd) : Method := W.2.2.2.2.2.2.2.1
abbrev Wd.c (W : Wd) : Code := W.2.2.2.2.2.2.2.2
def Ok (W : Wd) (R : Room) (n0 : Nat) (Q : Option Value → Heap → Prop) (h : Heap) (k n pc : Nat) (Ls : List Slot) (st : List Value) : Prop :=
  ∀ (T : State) (locs : List Loc), Stand W.p W.l W.e R W.s W.m W.args W.below W.meth W.c T locs k n → T.heap = h → Fr n0 locs →
    ∃ s₂ o, Steps W.p.tables W.e W.below (T.setTop (mkF W.m pc Ls.toArray st)) s₂ ∧ s₂.status = .running ∧ Ended s₂ W.below o ∧ ∃ v L, o = .returned v ∧ (Q v s₂.heap ∧ Fr n0 L) ∧ FrameEnd W.s o s₂ L R.cells R.slots
def Cx (W : Wd) (Z : State) (own nm : String) (bc : ByteArray) (maxL : Nat) (rt : Option FieldType) : Prop :=
  W.p.tables.exec = Jvm.exec ∧ Z.Warmed39 W.s.vm ∧ W.c.code = bc ∧ W.c.maxLocals = maxL ∧ W.s.vm.findClass own = some W.m.cls ∧ W.meth.sig.returnType = rt ∧ W.meth.locks = false ∧ W.meth.name = nm
section Own
variable {W : Wd} {R : Room} {n0 : Nat} {Q : Option Value → Heap → Prop} {h : Heap} {k n pc : Nat} {Ls : List Slot} {st : List Value} {Z : State} {own nm : String} {bc : ByteArray} {maxL : Nat} {rt : Option FieldType} {a0 : Array Value}
theorem Ok.back {pc' : Nat} {Ls' : List Slot} {st' : List Value} (g : Ok W R n0 Q h k n pc' Ls' st')
    (hs : ∀ (T : State) (locs : List Loc), Stand W.p W.l W.e R W.s W.m W.args W.below W.meth W.c T locs k n → T.heap = h → ∀ t, Steps W.p.tables W.e W.below (T.setTop (mkF W.m pc' Ls'.toArray st')) t → Steps W.p.tables W.e W.below (T.setTop (mkF W.m pc Ls.toArray st)) t) :
    Ok W R n0 Q h k n pc Ls st := fun T locs X e N => by
  obtain ⟨s₂, o, S, r⟩ := g T locs X e N
  exact ⟨s₂, o, hs T locs X e _ S, r⟩
/-- the same, the state (not its heap) moved -/
theorem Ok.move {pc' : Nat} {Ls' : List Slot} {st' : List Value} (g : Ok W R n0 Q h k n pc' Ls' st')
    (hs : ∀ (T : State) (locs : List Loc), Stand W.p W.l W.e R W.s W.m W.args W.below W.meth W.c T locs k n → T.heap = h → ∃ T', Stand W.p W.l W.e R W.s W.m W.args W.below W.meth W.c T' locs k n ∧ T'.heap = h ∧ ∀ t, Steps W.p.tables W.e W.below (T'.setTop (mkF W.m pc' Ls'.toArray st')) t → Steps W.p.tables W.e W.below (T.setTop (mkF W.m pc Ls.toArray st)) t) :
    Ok W R n0 Q h k n pc Ls st := fun T locs X e N => by
  obtain ⟨T', X', e', st⟩ := hs T locs X e
  obtain ⟨s₂, o, S, r⟩ := g T' locs X' e' N
  exact ⟨s₂, o, st _ S, r⟩
theorem own_get {Ls : List Slot} {i : Nat} {v : Slot} (hl : Ls[i]? = some v) : Ls.toArray[i]? = some v := by simpa using hl
theorem own_store {Ls Ls' : List Slot} {i : Nat} {v : Value} {o : Slot} (hold : Ls[i]? = some o) (ho : One o) (hv : v.category = 1) (hL : Ls.set i (.val v) = Ls') : storeLocals Ls.toArray i v = some Ls'.toArray := by
  rw [XS.store1 (own_get hold) ho hv, ← hL]; simp

theorem Ok.iload (C : Cx W Z own nm bc maxL rt) {i : Nat} {v : Int32} (hd : decode bc pc = .ok (.iload i, 2)) (hl : Ls[i]? = some (.val (.int v))) (q : Nat) (hq : pc + 2 = q) (g : Ok W R n0 Q h k n q Ls (.int v :: st)) : Ok W R n0 Q h k n pc Ls st := by
  subst hq
  exact g.back fun T locs X e t s => XS.iload X.here C.1 rfl (hb C.2.2.1 hd) (own_get hl) s
theorem Ok.iloadN (C : Cx W Z own nm bc maxL rt) {i : Fin 4} {v : Int32} (hd : decode bc pc = .ok (.iload_n i, 1)) (hl : Ls[i.val]? = some (.val (.int v))) (q : Nat) (hq : pc + 1 = q) (g : Ok W R n0 Q h k n q Ls (.int v :: st)) : Ok W R n0 Q h k n pc Ls st := by
  subst hq
  exact g.back fun T locs X e t s => XS.iloadN X.here C.1 rfl (hb C.2.2.1 hd) (own_get hl) s
theorem Ok.lload (C : Cx W Z own nm bc maxL rt) {i : Nat} {v : Int64} (hd : decode bc pc = .ok (.lload i, 2)) (hl : Ls[i]? = some (.val (.long v))) (q : Nat) (hq : pc + 2 = q) (g : Ok W R n0 Q h k n q Ls (.long v :: st)) : Ok W R n0 Q h k n pc Ls st := by
  subst hq
  exact g.back fun T locs X e t s => XS.lload X.here C.1 rfl (hb C.2.2.1 hd) (own_get hl) s
theorem Ok.lloadN (C : Cx W Z own nm bc maxL rt) {i : Fin 4} {v : Int64} (hd : decode bc pc = .ok (.lload_n i, 1)) (hl : Ls[i.val]? = some (.val (.long v))) (q : Nat) (hq : pc + 1 = q) (g : Ok W R n0 Q h k n q Ls (.long v :: st)) : Ok W R n0 Q h k n pc Ls st := by
  subst hq
  exact g.back fun T locs X e t s => XS.lloadN X.here C.1 rfl (hb C.2.2.1 hd) (own_get hl) s
theorem Ok.aload (C : Cx W Z own nm bc maxL rt) {i : Nat} {v : Addr} (hd : decode bc pc = .ok (.aload i, 2)) (hl : Ls[i]? = some (.val (.ref v))) (q : Nat) (hq : pc + 2 = q) (g : Ok W R n0 Q h k n q Ls (.ref v :: st)) : Ok W R n0 Q h k n pc Ls st := by
  subst hq
  exact g.back fun T locs X e t s => XS.aload X.here C.1 rfl (hb C.2.2.1 hd) (own_get hl) rfl s
theorem Ok.aloadN (C : Cx W Z own nm bc maxL rt) {i : Fin 4} {v : Addr} (hd : decode bc pc = .ok (.aload_n i, 1)) (hl : Ls[i.val]? = some (.val (.ref v))) (q : Nat) (hq : pc + 1 = q) (g : Ok W R n0 Q h k n q Ls (.ref v :: st)) : Ok W R n0 Q h k n pc Ls st := by
  subst hq
  exact g.back fun T locs X e t s => XS.aloadN X.here C.1 rfl (hb C.2.2.1 hd) (own_get hl) rfl s
theorem Ok.istore (C : Cx W Z own nm bc maxL rt) {i : Nat} {x : Int32} {o : Slot} (hd : decode bc pc = .ok (.istore i, 2)) (hold : Ls[i]? = some o) (ho : One o) (Ls' : List Slot) (hL : Ls.set i (.val (.int x)) = Ls') (q : Nat) (hq : pc + 2 = q) (g : Ok W R n0 Q h k n q Ls' st) : Ok W R n0 Q h k n pc Ls (.int x :: st) := by
  subst hq
  exact g.back fun T locs X e t s => XS.istore X.here C.1 rfl (hb C.2.2.1 hd) rfl (own_store hold ho rfl hL) s
theorem Ok.istoreN (C : Cx W Z own nm bc maxL rt) {i : Fin 4} {x : Int32} {o : Slot} (hd : decode bc pc = .ok (.istore_n i, 1)) (hold : Ls[i.val]? = some o) (ho : One o) (Ls' : List Slot) (hL : Ls.set i.val (.val (.int x)) = Ls') (q : Nat) (hq : pc + 1 = q) (g : Ok W R n0 Q h k n q Ls' st) : Ok W R n0 Q h k n pc Ls (.int x :: st) := by
  subst hq
  exact g.back fun T locs X e t s => XS.istoreN X.here C.1 rfl (hb C.2.2.1 hd) rfl (own_store hold ho rfl hL) s
theorem Ok.astore (C : Cx W Z own nm bc maxL rt) {i : Nat} {x : Addr} {o : Slot} (hd : decode bc pc = .ok (.astore i, 2)) (hold : Ls[i]? = some o) (ho : One o) (Ls' : List Slot) (hL : Ls.set i (.val (.ref x)) = Ls') (q : Nat) (hq : pc + 2 = q) (g : Ok W R n0 Q h k n q Ls' st) : Ok W R n0 Q h k n pc Ls (.ref x :: st) := by
  subst hq
  exact g.back fun T locs X e t s => XS.astore X.here C.1 rfl (hb C.2.2.1 hd) rfl rfl (own_store hold ho rfl hL) s
theorem Ok.astoreN (C : Cx W Z own nm bc maxL rt) {i : Fin 4} {x : Addr} {o : Slot} (hd : decode bc pc = .ok (.astore_n i, 1)) (hold : Ls[i.val]? = some o) (ho : One o) (Ls' : List Slot) (hL : Ls.set i.val (.val (.ref x)) = Ls') (q : Nat) (hq : pc + 1 = q) (g : Ok W R n0 Q h k n q Ls' st) : Ok W R n0 Q h k n pc Ls (.ref x :: st) := by
  subst hq
  exact g.back fun T locs X e t s => XS.astoreN X.here C.1 rfl (hb C.2.2.1 hd) rfl rfl (own_store hold ho rfl hL) s
theorem Ok.lstore (C : Cx W Z own nm bc maxL rt) {i : Nat} {x : Int64} (hd : decode bc pc = .ok (.lstore i, 2)) (Ls' : List Slot) (hL : storeLocals Ls.toArray i (.long x) = some Ls'.toArray) (q : Nat) (hq : pc + 2 = q) (g : Ok W R n0 Q h k n q Ls' st) : Ok W R n0 Q h k n pc Ls (.long x :: st) := by
  subst hq
  exact g.back fun T locs X e t s => XS.lstore X.here C.1 rfl (hb C.2.2.1 hd) rfl hL s
theorem Ok.lstoreN (C : Cx W Z own nm bc maxL rt) {i : Fin 4} {x : Int64} (hd : decode bc pc = .ok (.lstore_n i, 1)) (Ls' : List Slot) (hL : storeLocals Ls.toArray i.val (.long x) = some Ls'.toArray) (q : Nat) (hq : pc + 1 = q) (g : Ok W R n0 Q h k n q Ls' st) : Ok W R n0 Q h k n pc Ls (.long x :: st) := by
  subst hq
  exact g.back fun T locs X e t s => XS.lstoreN X.here C.1 rfl (hb C.2.2.1 hd) rfl hL s
theorem Ok.iconst (C : Cx W Z own nm bc maxL rt) {i : Int} (hd : decode bc pc = .ok (.iconst i, 1)) (q : Nat) (hq : pc + 1 = q) (z : Int32) (hz : Int32.ofInt i = z) (g : Ok W R n0 Q h k n q Ls (.int z :: st)) : Ok W R n0 Q h k n pc Ls st := by
  subst hq hz
  exact g.back fun T locs X e t s => XS.iconst X.here C.1 rfl (hb C.2.2.1 hd) s
theorem Ok.bipush (C : Cx W Z own nm bc maxL rt) {i : Int} (hd : decode bc pc = .ok (.bipush i, 2)) (q : Nat) (hq : pc + 2 = q) (z : Int32) (hz : (Int8.ofInt i).toInt32 = z) (g : Ok W R n0 Q h k n q Ls (.int z :: st)) : Ok W R n0 Q h k n pc Ls st := by
  subst hq hz
  exact g.back fun T locs X e t s => XS.bipush X.here C.1 rfl (hb C.2.2.1 hd) s
theorem Ok.sipush (C : Cx W Z own nm bc maxL rt) {i : Int} (hd : decode bc pc = .ok (.sipush i, 3)) (q : Nat) (hq : pc + 3 = q) (z : Int32) (hz : (Int16.ofInt i).toInt32 = z) (g : Ok W R n0 Q h k n q Ls (.int z :: st)) : Ok W R n0 Q h k n pc Ls st := by
  subst hq hz
  exact g.back fun T locs X e t s => XS.sipush X.here C.1 rfl (hb C.2.2.1 hd) s
theorem Ok.lconst (C : Cx W Z own nm bc maxL rt) {i : Fin 2} (hd : decode bc pc = .ok (.lconst i, 1)) (q : Nat) (hq : pc + 1 = q) (z : Int64) (hz : Int64.ofNat i = z) (g : Ok W R n0 Q h k n q Ls (.long z :: st)) : Ok W R n0 Q h k n pc Ls st := by
  subst hq hz
  exact g.back fun T locs X e t s => XS.lconst X.here C.1 rfl (hb C.2.2.1 hd) s
theorem Ok.ldc (C : Cx W Z own nm bc maxL rt) {i : Nat} {v : Int32} (w : (Jvm.Cond.constant own i v).before a0 Z = true) (hd : decode bc pc = .ok (.ldc i, 2)) (q : Nat) (hq : pc + 2 = q) (g : Ok W R n0 Q h k n q Ls (.int v :: st)) : Ok W R n0 Q h k n pc Ls st := by
  subst hq
  exact g.back fun T locs X e t s => X.ldcInt C.1 C.2.2.2.2.1 (mvT C.2.1 w) (g := mkF W.m pc Ls.toArray st) rfl (hb C.2.2.1 hd) t s
theorem Ok.ldc2 (C : Cx W Z own nm bc maxL rt) {i : Nat} {v : Int64} (w : (Jvm.Cond.constantLong own i v).before a0 Z = true) (hd : decode bc pc = .ok (.ldc2_w i, 3)) (q : Nat) (hq : pc + 3 = q) (g : Ok W R n0 Q h k n q Ls (.long v :: st)) : Ok W R n0 Q h k n pc Ls st := by
  subst hq
  exact g.back fun T locs X e t s => X.ldc2Long C.1 C.2.2.2.2.1 (mvT C.2.1 w) (g := mkF W.m pc Ls.toArray st) rfl (hb C.2.2.1 hd) t s
theorem Ok.iadd (C : Cx W Z own nm bc maxL rt) {x : Int32} {y : Int32} (hd : decode bc pc = .ok (.iadd, 1)) (q : Nat) (hq : pc + 1 = q) (g : ∀ z, z = x + y → Ok W R n0 Q h k n q Ls (.int z :: st)) : Ok W R n0 Q h k n pc Ls (.int y :: .int x :: st) := by
  subst hq
  exact (g _ rfl).back fun T locs X e t s => XS.iadd X.here C.1 rfl (hb C.2.2.1 hd) rfl s
theorem Ok.isub (C : Cx W Z own nm bc maxL rt) {x : Int32} {y : Int32} (hd : decode bc pc = .ok (.isub, 1)) (q : Nat) (hq : pc + 1 = q) (g : ∀ z, z = x - y → Ok W R n0 Q h k n q Ls (.int z :: st)) : Ok W R n0 Q h k n pc Ls (.int y :: .int x :: st) := by
  subst hq
  exact (g _ rfl).back fun T locs X e t s => XS.isub X.here C.1 rfl (hb C.2.2.1 hd) rfl s
theorem Ok.imul (C : Cx W Z own nm bc maxL rt) {x : Int32} {y : Int32} (hd : decode bc pc = .ok (.imul, 1)) (q : Nat) (hq : pc + 1 = q) (g : ∀ z, z = x * y → Ok W R n0 Q h k n q Ls (.int z :: st)) : Ok W R n0 Q h k n pc Ls (.int y :: .int x :: st) := by
  subst hq
  exact (g _ rfl).back fun T locs X e t s => XS.imul X.here C.1 rfl (hb C.2.2.1 hd) rfl s
theorem Ok.iand (C : Cx W Z own nm bc maxL rt) {x : Int32} {y : Int32} (hd : decode bc pc = .ok (.iand, 1)) (q : Nat) (hq : pc + 1 = q) (g : ∀ z, z = x &&& y → Ok W R n0 Q h k n q Ls (.int z :: st)) : Ok W R n0 Q h k n pc Ls (.int y :: .int x :: st) := by
  subst hq
  exact (g _ rfl).back fun T locs X e t s => XS.iand X.here C.1 rfl (hb C.2.2.1 hd) rfl s
theorem Ok.ior (C : Cx W Z own nm bc maxL rt) {x : Int32} {y : Int32} (hd : decode bc pc = .ok (.ior, 1)) (q : Nat) (hq : pc + 1 = q) (g : ∀ z, z = x ||| y → Ok W R n0 Q h k n q Ls (.int z :: st)) : Ok W R n0 Q h k n pc Ls (.int y :: .int x :: st) := by
  subst hq
  exact (g _ rfl).back fun T locs X e t s => XS.ior X.here C.1 rfl (hb C.2.2.1 hd) rfl s
theorem Ok.ixor (C : Cx W Z own nm bc maxL rt) {x : Int32} {y : Int32} (hd : decode bc pc = .ok (.ixor, 1)) (q : Nat) (hq : pc + 1 = q) (g : ∀ z, z = x ^^^ y → Ok W R n0 Q h k n q Ls (.int z :: st)) : Ok W R n0 Q h k n pc Ls (.int y :: .int x :: st) := by
  subst hq
  exact (g _ rfl).back fun T locs X e t s => XS.ixor X.here C.1 rfl (hb C.2.2.1 hd) rfl s
theorem Ok.ishl (C : Cx W Z own nm bc maxL rt) {x : Int32} {y : Int32} (hd : decode bc pc = .ok (.ishl, 1)) (q : Nat) (hq : pc + 1 = q) (g : ∀ z, z = x <<< (y &&& 31) → Ok W R n0 Q h k n q Ls (.int z :: st)) : Ok W R n0 Q h k n pc Ls (.int y :: .int x :: st) := by
  subst hq
  exact (g _ rfl).back fun T locs X e t s => XS.ishl X.here C.1 rfl (hb C.2.2.1 hd) rfl s
theorem Ok.ishr (C : Cx W Z own nm bc maxL rt) {x : Int32} {y : Int32} (hd : decode bc pc = .ok (.ishr, 1)) (q : Nat) (hq : pc + 1 = q) (g : ∀ z, z = x >>> (y &&& 31) → Ok W R n0 Q h k n q Ls (.int z :: st)) : Ok W R n0 Q h k n pc Ls (.int y :: .int x :: st) := by
  subst hq
  exact (g _ rfl).back fun T locs X e t s => XS.ishr X.here C.1 rfl (hb C.2.2.1 hd) rfl s
theorem Ok.iushr (C : Cx W Z own nm bc maxL rt) {x : Int32} {y : Int32} (hd : decode bc pc = .ok (.iushr, 1)) (q : Nat) (hq : pc + 1 = q) (g : ∀ z, z = (x.toUInt32 >>> (y &&& 31).toUInt32).toInt32 → Ok W R n0 Q h k n q Ls (.int z :: st)) : Ok W R n0 Q h k n pc Ls (.int y :: .int x :: st) := by
  subst hq
  exact (g _ rfl).back fun T locs X e t s => XS.iushr X.here C.1 rfl (hb C.2.2.1 hd) rfl s
theorem Ok.ladd (C : Cx W Z own nm bc maxL rt) {x : Int64} {y : Int64} (hd : decode bc pc = .ok (.ladd, 1)) (q : Nat) (hq : pc + 1 = q) (g : ∀ z, z = x + y → Ok W R n0 Q h k n q Ls (.long z :: st)) : Ok W R n0 Q h k n pc Ls (.long y :: .long x :: st) := by
  subst hq
  exact (g _ rfl).back fun T locs X e t s => XS.ladd X.here C.1 rfl (hb C.2.2.1 hd) rfl s
theorem Ok.lsub (C : Cx W Z own nm bc maxL rt) {x : Int64} {y : Int64} (hd : decode bc pc = .ok (.lsub, 1)) (q : Nat) (hq : pc + 1 = q) (g : ∀ z, z = x - y → Ok W R n0 Q h k n q Ls (.long z :: st)) : Ok W R n0 Q h k n pc Ls (.long y :: .long x :: st) := by
  subst hq
  exact (g _ rfl).back fun T locs X e t s => XS.lsub X.here C.1 rfl (hb C.2.2.1 hd) rfl s
theorem Ok.lmul (C : Cx W Z own nm bc maxL rt) {x : Int64} {y : Int64} (hd : decode bc pc = .ok (.lmul, 1)) (q : Nat) (hq : pc + 1 = q) (g : ∀ z, z = x * y → Ok W R n0 Q h k n q Ls (.long z :: st)) : Ok W R n0 Q h k n pc Ls (.long y :: .long x :: st) := by
  subst hq
  exact (g _ rfl).back fun T locs X e t s => XS.lmul X.here C.1 rfl (hb C.2.2.1 hd) rfl s
theorem Ok.land (C : Cx W Z own nm bc maxL rt) {x : Int64} {y : Int64} (hd : decode bc pc = .ok (.land, 1)) (q : Nat) (hq : pc + 1 = q) (g : ∀ z, z = x &&& y → Ok W R n0 Q h k n q Ls (.long z :: st)) : Ok W R n0 Q h k n pc Ls (.long y :: .long x :: st) := by
  subst hq
  exact (g _ rfl).back fun T locs X e t s => XS.land X.here C.1 rfl (hb C.2.2.1 hd) rfl s
theorem Ok.lor (C : Cx W Z own nm bc maxL rt) {x : Int64} {y : Int64} (hd : decode bc pc = .ok (.lor, 1)) (q : Nat) (hq : pc + 1 = q) (g : ∀ z, z = x ||| y → Ok W R n0 Q h k n q Ls (.long z :: st)) : Ok W R n0 Q h k n pc Ls (.long y :: .long x :: st) := by
  subst hq
  exact (g _ rfl).back fun T locs X e t s => XS.lor X.here C.1 rfl (hb C.2.2.1 hd) rfl s
theorem Ok.lxor (C : Cx W Z own nm bc maxL rt) {x : Int64} {y : Int64} (hd : decode bc pc = .ok (.lxor, 1)) (q : Nat) (hq : pc + 1 = q) (g : ∀ z, z = x ^^^ y → Ok W R n0 Q h k n q Ls (.long z :: st)) : Ok W R n0 Q h k n pc Ls (.long y :: .long x :: st) := by
  subst hq
  exact (g _ rfl).back fun T locs X e t s => XS.lxor X.here C.1 rfl (hb C.2.2.1 hd) rfl s
theorem Ok.lshl (C : Cx W Z own nm bc maxL rt) {x : Int64} {y : Int32} (hd : decode bc pc = .ok (.lshl, 1)) (q : Nat) (hq : pc + 1 = q) (g : ∀ z, z = x <<< (y &&& 0x3f).toInt64 → Ok W R n0 Q h k n q Ls (.long z :: st)) : Ok W R n0 Q h k n pc Ls (.int y :: .long x :: st) := by
  subst hq
  exact (g _ rfl).back fun T locs X e t s => XS.lshl X.here C.1 rfl (hb C.2.2.1 hd) rfl s
theorem Ok.lushr (C : Cx W Z own nm bc maxL rt) {x : Int64} {y : Int32} (hd : decode bc pc = .ok (.lushr, 1)) (q : Nat) (hq : pc + 1 = q) (g : ∀ z, z = (x.toUInt64 >>> (y &&& 0x3f).toInt64.toUInt64).toInt64 → Ok W R n0 Q h k n q Ls (.long z :: st)) : Ok W R n0 Q h k n pc Ls (.int y :: .long x :: st) := by
  subst hq
  exact (g _ rfl).back fun T locs X e t s => XS.lushr X.here C.1 rfl (hb C.2.2.1 hd) rfl s
theorem Ok.idiv (C : Cx W Z own nm bc maxL rt) {x y : Int32} (hd : decode bc pc = .ok (.idiv, 1)) (hy : y ≠ 0) (q : Nat) (hq : pc + 1 = q) (g : ∀ z, z = x / y → Ok W R n0 Q h k n q Ls (.int z :: st)) : Ok W R n0 Q h k n pc Ls (.int y :: .int x :: st) := by
  subst hq
  exact (g _ rfl).back fun T locs X e t s => XS.idiv X.here C.1 rfl (hb C.2.2.1 hd) rfl hy s
theorem Ok.ldiv (C : Cx W Z own nm bc maxL rt) {x y : Int64} (hd : decode bc pc = .ok (.ldiv, 1)) (hy : y ≠ 0) (q : Nat) (hq : pc + 1 = q) (g : ∀ z, z = x / y → Ok W R n0 Q h k n q Ls (.long z :: st)) : Ok W R n0 Q h k n pc Ls (.long y :: .long x :: st) := by
  subst hq
  exact (g _ rfl).back fun T locs X e t s => XS.ldiv X.here C.1 rfl (hb C.2.2.1 hd) rfl hy s
theorem Ok.irem (C : Cx W Z own nm bc maxL rt) {x y : Int32} (hd : decode bc pc = .ok (.irem, 1)) (hy : y ≠ 0) (q : Nat) (hq : pc + 1 = q) (g : ∀ z, z = x % y → Ok W R n0 Q h k n q Ls (.int z :: st)) : Ok W R n0 Q h k n pc Ls (.int y :: .int x :: st) := by
  subst hq
  exact (g _ rfl).back fun T locs X e t s => iremM X C.1 rfl (hb C.2.2.1 hd) rfl hy s
theorem Ok.lrem (C : Cx W Z own nm bc maxL rt) {x y : Int64} (hd : decode bc pc = .ok (.lrem, 1)) (hy : y ≠ 0) (q : Nat) (hq : pc + 1 = q) (g : ∀ z, z = x % y → Ok W R n0 Q h k n q Ls (.long z :: st)) : Ok W R n0 Q h k n pc Ls (.long y :: .long x :: st) := by
  subst hq
  have g := g _ (lrem_mod x y)
  exact g.back fun T locs X e t s => XS.lrem X.here C.1 rfl (hb C.2.2.1 hd) rfl hy s
theorem Ok.i2l (C : Cx W Z own nm bc maxL rt) {x : Int32} (hd : decode bc pc = .ok (.i2l, 1)) (q : Nat) (hq : pc + 1 = q) (g : ∀ z, z = x.toInt64 → Ok W R n0 Q h k n q Ls (.long z :: st)) : Ok W R n0 Q h k n pc Ls (.int x :: st) := by
  subst hq
  exact (g _ rfl).back fun T locs X e t s => XS.i2l X.here C.1 rfl (hb C.2.2.1 hd) rfl s
theorem Ok.l2i (C : Cx W Z own nm bc maxL rt) {x : Int64} (hd : decode bc pc = .ok (.l2i, 1)) (q : Nat) (hq : pc + 1 = q) (g : ∀ z, z = x.toInt32 → Ok W R n0 Q h k n q Ls (.int z :: st)) : Ok W R n0 Q h k n pc Ls (.long x :: st) := by
  subst hq
  exact (g _ rfl).back fun T locs X e t s => XS.l2i X.here C.1 rfl (hb C.2.2.1 hd) rfl s
theorem Ok.i2b (C : Cx W Z own nm bc maxL rt) {x : Int32} (hd : decode bc pc = .ok (.i2b, 1)) (q : Nat) (hq : pc + 1 = q) (g : ∀ z, z = x.toInt8.toInt32 → Ok W R n0 Q h k n q Ls (.int z :: st)) : Ok W R n0 Q h k n pc Ls (.int x :: st) := by
  subst hq
  exact (g _ rfl).back fun T locs X e t s => XS.i2b X.here C.1 rfl (hb C.2.2.1 hd) rfl s
theorem Ok.ineg (C : Cx W Z own nm bc maxL rt) {x : Int32} (hd : decode bc pc = .ok (.ineg, 1)) (q : Nat) (hq : pc + 1 = q) (g : ∀ z, z = -x → Ok W R n0 Q h k n q Ls (.int z :: st)) : Ok W R n0 Q h k n pc Ls (.int x :: st) := by
  subst hq
  exact (g _ rfl).back fun T locs X e t s => XS.ineg X.here C.1 rfl (hb C.2.2.1 hd) rfl s
theorem Ok.lneg (C : Cx W Z own nm bc maxL rt) {x : Int64} (hd : decode bc pc = .ok (.lneg, 1)) (q : Nat) (hq : pc + 1 = q) (g : ∀ z, z = -x → Ok W R n0 Q h k n q Ls (.long z :: st)) : Ok W R n0 Q h k n pc Ls (.long x :: st) := by
  subst hq
  exact (g _ rfl).back fun T locs X e t s => XS.lneg X.here C.1 rfl (hb C.2.2.1 hd) rfl s
theorem Ok.iinc (C : Cx W Z own nm bc maxL rt) {i : Nat} {cst : Int} {x : Int32} (hd : decode bc pc = .ok (.iinc i cst, 3)) (hl : Ls[i]? = some (.val (.int x))) (z : Int32) (hz : Int32.ofInt cst = z) (Ls' : Int32 → List Slot) (hL : ∀ y, Ls.set i (.val (.int y)) = Ls' y) (q : Nat) (hq : pc + 3 = q) (g : ∀ y, y = x + z → Ok W R n0 Q h k n q (Ls' y) st) : Ok W R n0 Q h k n pc Ls st := by
  subst hq hz
  exact (g _ rfl).back fun T locs X e t s => XS.iinc X.here C.1 rfl (hb C.2.2.1 hd) (own_get hl) (own_store hl (One.val rfl) rfl (hL _)) s
theorem Ok.dup (C : Cx W Z own nm bc maxL rt) {x : Value} (hd : decode bc pc = .ok (.dup, 1)) (hc : x.category = 1) (q : Nat) (hq : pc + 1 = q) (g : Ok W R n0 Q h k n q Ls (x :: x :: st)) : Ok W R n0 Q h k n pc Ls (x :: st) := by
  subst hq
  exact g.back fun T locs X e t s => XS.dup X.here C.1 rfl (hb C.2.2.1 hd) rfl hc s
theorem Ok.pop (C : Cx W Z own nm bc maxL rt) {x : Value} (hd : decode bc pc = .ok (.pop, 1)) (hc : x.category = 1) (q : Nat) (hq : pc + 1 = q) (g : Ok W R n0 Q h k n q Ls st) : Ok W R n0 Q h k n pc Ls (x :: st) := by
  subst hq
  exact g.back fun T locs X e t s => XS.pop X.here C.1 rfl (hb C.2.2.1 hd) rfl hc s
theorem Ok.dupX1 (C : Cx W Z own nm bc maxL rt) {x y : Value} (hd : decode bc pc = .ok (.dup_x1, 1)) (hc : x.category = 1) (hc2 : y.category = 1) (q : Nat) (hq : pc + 1 = q) (g : Ok W R n0 Q h k n q Ls (x :: y :: x :: st)) : Ok W R n0 Q h k n pc Ls (x :: y :: st) := by
  subst hq
  exact g.back fun T locs X e t s => XS.dupX1 X.here C.1 rfl (hb C.2.2.1 hd) rfl hc hc2 s
theorem Ok.dup2 (C : Cx W Z own nm bc maxL rt) {x y : Value} (hd : decode bc pc = .ok (.dup2, 1)) (hc : x.category = 1) (hc2 : y.category = 1) (q : Nat) (hq : pc + 1 = q) (g : Ok W R n0 Q h k n q Ls (x :: y :: x :: y :: st)) : Ok W R n0 Q h k n pc Ls (x :: y :: st) := by
  subst hq
  exact g.back fun T locs X e t s => by
    have hd' := hb C.2.2.1 hd
    have hx := C.1
    show Steps _ _ _ (T.setTop { method := W.m, pc := pc, locals := Ls.toArray, stack := x :: y :: st, locked := none }) _
    jvm_step X.here [X.here.top, hx, hd', hc, hc2]
    exact s
theorem Ok.dupX2 (C : Cx W Z own nm bc maxL rt) {x y z : Value} (hd : decode bc pc = .ok (.dup_x2, 1)) (hc : x.category = 1) (hc2 : y.category = 1) (hc3 : z.category = 1) (q : Nat) (hq : pc + 1 = q) (g : Ok W R n0 Q h k n q Ls (x :: y :: z :: x :: st)) : Ok W R n0 Q h k n pc Ls (x :: y :: z :: st) := by
  subst hq
  exact g.back fun T locs X e t s => by
    have hd' := hb C.2.2.1 hd
    have hx := C.1
    show Steps _ _ _ (T.setTop { method := W.m, pc := pc, locals := Ls.toArray, stack := x :: y :: z :: st, locked := none }) _
    jvm_step X.here [X.here.top, hx, hd', hc, hc2, hc3]
    exact s
theorem Ok.goto (C : Cx W Z own nm bc maxL rt) {o : Int} (hd : decode bc pc = .ok (.goto o, 3)) (q : Nat) (hq : (pc : Int) + o = q) (g : Ok W R n0 Q h k n q Ls st) : Ok W R n0 Q h k n pc Ls st :=
  g.back fun T locs X e t s => XS.goto X.here C.1 rfl (pc0 := pc) (pc' := q) rfl (hb C.2.2.1 hd) (by omega) (by omega) s
theorem Ok.icmpB (C : Cx W Z own nm bc maxL rt) {cd : ClassFile.Cond} {x y : Int32} {o : Int} (hd : decode bc pc = .ok (.if_icmp cd o, 3)) (t q : Nat) (ht : (pc : Int) + o = t) (hq : pc + 3 = q) (g1 : if_icmp.holds cd x y = true → Ok W R n0 Q h k n t Ls st) (g2 : if_icmp.holds cd x y = false → Ok W R n0 Q h k n q Ls st) : Ok W R n0 Q h k n pc Ls (.int y :: .int x :: st) := by
  subst hq
  cases hc : if_icmp.holds cd x y
  · exact (g2 hc).back fun T locs X e t s => XS.icmpNo X.here C.1 rfl (hb C.2.2.1 hd) rfl hc s
  · exact (g1 hc).back fun T locs X e t' s => XS.icmpYes X.here C.1 rfl (pc0 := pc) (pc' := t) rfl (hb C.2.2.1 hd) rfl hc (by omega) (by omega) s
theorem Ok.ifB (C : Cx W Z own nm bc maxL rt) {cd : ClassFile.Cond} {x : Int32} {o : Int} (hd : decode bc pc = .ok (.ifCond cd o, 3)) (t q : Nat) (ht : (pc : Int) + o = t) (hq : pc + 3 = q) (g1 : if_icmp.holds cd x 0 = true → Ok W R n0 Q h k n t Ls st) (g2 : if_icmp.holds cd x 0 = false → Ok W R n0 Q h k n q Ls st) : Ok W R n0 Q h k n pc Ls (.int x :: st) := by
  subst hq
  cases hc : if_icmp.holds cd x 0
  · exact (g2 hc).back fun T locs X e t s => XS.ifNo X.here C.1 rfl (hb C.2.2.1 hd) rfl ((if0 _ _).trans hc) s
  · exact (g1 hc).back fun T locs X e t' s => XS.ifYes X.here C.1 rfl (pc0 := pc) (pc' := t) rfl (hb C.2.2.1 hd) rfl ((if0 _ _).trans hc) (by omega) (by omega) s
theorem Ok.lcmp (C : Cx W Z own nm bc maxL rt) {x y : Int64} (hd : decode bc pc = .ok (.lcmp, 1)) (q : Nat) (hq : pc + 1 = q) (g : Ok W R n0 Q h k n q Ls (.int (lcmpW x y) :: st)) : Ok W R n0 Q h k n pc Ls (.long y :: .long x :: st) := by
  subst hq
  exact g.back fun T locs X e t s => XS.lcmp X.here C.1 rfl (hb C.2.2.1 hd) rfl s
theorem h_lt {x y : Int32} : (if_icmp.holds .lt x y = true → x.toInt < y.toInt) ∧ (if_icmp.holds .lt x y = false → y.toInt ≤ x.toInt) := by simp [if_icmp.holds, Int32.lt_iff_toInt_lt]
theorem h_ge {x y : Int32} : (if_icmp.holds .ge x y = true → y.toInt ≤ x.toInt) ∧ (if_icmp.holds .ge x y = false → x.toInt < y.toInt) := by simp [if_icmp.holds, Int32.le_iff_toInt_le]
theorem h_gt {x y : Int32} : (if_icmp.holds .gt x y = true → y.toInt < x.toInt) ∧ (if_icmp.holds .gt x y = false → x.toInt ≤ y.toInt) := by simp [if_icmp.holds, Int32.lt_iff_toInt_lt]
theorem h_le {x y : Int32} : (if_icmp.holds .le x y = true → x.toInt ≤ y.toInt) ∧ (if_icmp.holds .le x y = false → y.toInt < x.toInt) := by simp [if_icmp.holds, Int32.le_iff_toInt_le]
theorem h_eq {x y : Int32} : (if_icmp.holds .eq x y = true → x.toInt = y.toInt) ∧ (if_icmp.holds .eq x y = false → x.toInt ≠ y.toInt) := by simp [if_icmp.holds, Int32.toInt_inj]
theorem h_ne {x y : Int32} : (if_icmp.holds .ne x y = true → x.toInt ≠ y.toInt) ∧ (if_icmp.holds .ne x y = false → x.toInt = y.toInt) := by simp [if_icmp.holds, Int32.toInt_inj]
theorem lw_z (x y : Int64) : (lcmpW x y).toInt = 1 ∧ y.toInt < x.toInt ∨ (lcmpW x y).toInt = 0 ∧ x.toInt = y.toInt ∨ (lcmpW x y).toInt = -1 ∧ x.toInt < y.toInt := by
  obtain ⟨a, b, c⟩ := c_lcmp x y
  by_cases h1 : x.toInt < y.toInt
  · exact Or.inr (Or.inr ⟨a h1, h1⟩)
  · by_cases h2 : x.toInt = y.toInt
    · exact Or.inr (Or.inl ⟨b h2, h2⟩)
    · exact Or.inl ⟨c (by omega), by omega⟩
theorem z32 : (0 : Int32).toInt = 0 := rfl
theorem Ok.icmp_lt (C : Cx W Z own nm bc maxL rt) {x y : Int32} {o : Int} (hd : decode bc pc = .ok (.if_icmp .lt o, 3)) (t q : Nat) (ht : (pc : Int) + o = t) (hq : pc + 3 = q) (g1 : x.toInt < y.toInt → Ok W R n0 Q h k n t Ls st) (g2 : y.toInt ≤ x.toInt → Ok W R n0 Q h k n q Ls st) : Ok W R n0 Q h k n pc Ls (.int y :: .int x :: st) :=
  Ok.icmpB C hd t q ht hq (fun z => g1 (h_lt.1 z)) (fun z => g2 (h_lt.2 z))
theorem Ok.if_lt (C : Cx W Z own nm bc maxL rt) {x : Int32} {o : Int} (hd : decode bc pc = .ok (.ifCond .lt o, 3)) (t q : Nat) (ht : (pc : Int) + o = t) (hq : pc + 3 = q) (g1 : x.toInt < 0 → Ok W R n0 Q h k n t Ls st) (g2 : 0 ≤ x.toInt → Ok W R n0 Q h k n q Ls st) : Ok W R n0 Q h k n pc Ls (.int x :: st) :=
  Ok.ifB C hd t q ht hq (fun z => g1 (h_lt.1 z)) (fun z => g2 (h_lt.2 z))
theorem Ok.lcmp_lt (C : Cx W Z own nm bc maxL rt) {x y : Int64} {o : Int} (hd0 : decode bc pc = .ok (.lcmp, 1)) (hd : decode bc (pc + 1) = .ok (.ifCond .lt o, 3)) (t q : Nat) (ht : ((pc + 1 : Nat) : Int) + o = t) (hq : pc + 1 + 3 = q) (g1 : x.toInt < y.toInt → Ok W R n0 Q h k n t Ls st) (g2 : y.toInt ≤ x.toInt → Ok W R n0 Q h k n q Ls st) : Ok W R n0 Q h k n pc Ls (.long y :: .long x :: st) :=
  Ok.lcmp C hd0 _ rfl (Ok.if_lt C hd t q ht hq (fun z => g1 (by have := lw_z x y; omega)) (fun z => g2 (by have := lw_z x y; omega)))
theorem Ok.icmp_ge (C : Cx W Z own nm bc maxL rt) {x y : Int32} {o : Int} (hd : decode bc pc = .ok (.if_icmp .ge o, 3)) (t q : Nat) (ht : (pc : Int) + o = t) (hq : pc + 3 = q) (g1 : y.toInt ≤ x.toInt → Ok W R n0 Q h k n t Ls st) (g2 : x.toInt < y.toInt → Ok W R n0 Q h k n q Ls st) : Ok W R n0 Q h k n pc Ls (.int y :: .int x :: st) :=
  Ok.icmpB C hd t q ht hq (fun z => g1 (h_ge.1 z)) (fun z => g2 (h_ge.2 z))
theorem Ok.if_ge (C : Cx W Z own nm bc maxL rt) {x : Int32} {o : Int} (hd : decode bc pc = .ok (.ifCond .ge o, 3)) (t q : Nat) (ht : (pc : Int) + o = t) (hq : pc + 3 = q) (g1 : 0 ≤ x.toInt → Ok W R n0 Q h k n t Ls st) (g2 : x.toInt < 0 → Ok W R n0 Q h k n q Ls st) : Ok W R n0 Q h k n pc Ls (.int x :: st) :=
  Ok.ifB C hd t q ht hq (fun z => g1 (h_ge.1 z)) (fun z => g2 (h_ge.2 z))
theorem Ok.lcmp_ge (C : Cx W Z own nm bc maxL rt) {x y : Int64} {o : Int} (hd0 : decode bc pc = .ok (.lcmp, 1)) (hd : decode bc (pc + 1) = .ok (.ifCond .ge o, 3)) (t q : Nat) (ht : ((pc + 1 : Nat) : Int) + o = t) (hq : pc + 1 + 3 = q) (g1 : y.toInt ≤ x.toInt → Ok W R n0 Q h k n t Ls st) (g2 : x.toInt < y.toInt → Ok W R n0 Q h k n q Ls st) : Ok W R n0 Q h k n pc Ls (.long y :: .long x :: st) :=
  Ok.lcmp C hd0 _ rfl (Ok.if_ge C hd t q ht hq (fun z => g1 (by have := lw_z x y; omega)) (fun z => g2 (by have := lw_z x y; omega)))
theorem Ok.icmp_gt (C : Cx W Z own nm bc maxL rt) {x y : Int32} {o : Int} (hd : decode bc pc = .ok (.if_icmp .gt o, 3)) (t q : Nat) (ht : (pc : Int) + o = t) (hq : pc + 3 = q) (g1 : y.toInt < x.toInt → Ok W R n0 Q h k n t Ls st) (g2 : x.toInt ≤ y.toInt → Ok W R n0 Q h k n q Ls st) : Ok W R n0 Q h k n pc Ls (.int y :: .int x :: st) :=
  Ok.icmpB C hd t q ht hq (fun z => g1 (h_gt.1 z)) (fun z => g2 (h_gt.2 z))
theorem Ok.if_gt (C : Cx W Z own nm bc maxL rt) {x : Int32} {o : Int} (hd : decode bc pc = .ok (.ifCond .gt o, 3)) (t q : Nat) (ht : (pc : Int) + o = t) (hq : pc + 3 = q) (g1 : 0 < x.toInt → Ok W R n0 Q h k n t Ls st) (g2 : x.toInt ≤ 0 → Ok W R n0 Q h k n q Ls st) : Ok W R n0 Q h k n pc Ls (.int x :: st) :=
  Ok.ifB C hd t q ht hq (fun z => g1 (h_gt.1 z)) (fun z => g2 (h_gt.2 z))
theorem Ok.lcmp_gt (C : Cx W Z own nm bc maxL rt) {x y : Int64} {o : Int} (hd0 : decode bc pc = .ok (.lcmp, 1)) (hd : decode bc (pc + 1) = .ok (.ifCond .gt o, 3)) (t q : Nat) (ht : ((pc + 1 : Nat) : Int) + o = t) (hq : pc + 1 + 3 = q) (g1 : y.toInt < x.toInt → Ok W R n0 Q h k n t Ls st) (g2 : x.toInt ≤ y.toInt → Ok W R n0 Q h k n q Ls st) : Ok W R n0 Q h k n pc Ls (.long y :: .long x :: st) :=
  Ok.lcmp C hd0 _ rfl (Ok.if_gt C hd t q ht hq (fun z => g1 (by have := lw_z x y; omega)) (fun z => g2 (by have := lw_z x y; omega)))
theorem Ok.icmp_le (C : Cx W Z own nm bc maxL rt) {x y : Int32} {o : Int} (hd : decode bc pc = .ok (.if_icmp .le o, 3)) (t q : Nat) (ht : (pc : Int) + o = t) (hq : pc + 3 = q) (g1 : x.toInt ≤ y.toInt → Ok W R n0 Q h k n t Ls st) (g2 : y.toInt < x.toInt → Ok W R n0 Q h k n q Ls st) : Ok W R n0 Q h k n pc Ls (.int y :: .int x :: st) :=
  Ok.icmpB C hd t q ht hq (fun z => g1 (h_le.1 z)) (fun z => g2 (h_le.2 z))
theorem Ok.if_le (C : Cx W Z own nm bc maxL rt) {x : Int32} {o : Int} (hd : decode bc pc = .ok (.ifCond .le o, 3)) (t q : Nat) (ht : (pc : Int) + o = t) (hq : pc + 3 = q) (g1 : x.toInt ≤ 0 → Ok W R n0 Q h k n t Ls st) (g2 : 0 < x.toInt → Ok W R n0 Q h k n q Ls st) : Ok W R n0 Q h k n pc Ls (.int x :: st) :=
  Ok.ifB C hd t q ht hq (fun z => g1 (h_le.1 z)) (fun z => g2 (h_le.2 z))
theorem Ok.lcmp_le (C : Cx W Z own nm bc maxL rt) {x y : Int64} {o : Int} (hd0 : decode bc pc = .ok (.lcmp, 1)) (hd : decode bc (pc + 1) = .ok (.ifCond .le o, 3)) (t q : Nat) (ht : ((pc + 1 : Nat) : Int) + o = t) (hq : pc + 1 + 3 = q) (g1 : x.toInt ≤ y.toInt → Ok W R n0 Q h k n t Ls st) (g2 : y.toInt < x.toInt → Ok W R n0 Q h k n q Ls st) : Ok W R n0 Q h k n pc Ls (.long y :: .long x :: st) :=
  Ok.lcmp C hd0 _ rfl (Ok.if_le C hd t q ht hq (fun z => g1 (by have := lw_z x y; omega)) (fun z => g2 (by have := lw_z x y; omega)))
theorem Ok.icmp_eq (C : Cx W Z own nm bc maxL rt) {x y : Int32} {o : Int} (hd : decode bc pc = .ok (.if_icmp .eq o, 3)) (t q : Nat) (ht : (pc : Int) + o = t) (hq : pc + 3 = q) (g1 : x.toInt = y.toInt → Ok W R n0 Q h k n t Ls st) (g2 : x.toInt ≠ y.toInt → Ok W R n0 Q h k n q Ls st) : Ok W R n0 Q h k n pc Ls (.int y :: .int x :: st) :=
  Ok.icmpB C hd t q ht hq (fun z => g1 (h_eq.1 z)) (fun z => g2 (h_eq.2 z))
theorem Ok.if_eq (C : Cx W Z own nm bc maxL rt) {x : Int32} {o : Int} (hd : decode bc pc = .ok (.ifCond .eq o, 3)) (t q : Nat) (ht : (pc : Int) + o = t) (hq : pc + 3 = q) (g1 : x.toInt = 0 → Ok W R n0 Q h k n t Ls st) (g2 : x.toInt ≠ 0 → Ok W R n0 Q h k n q Ls st) : Ok W R n0 Q h k n pc Ls (.int x :: st) :=
  Ok.ifB C hd t q ht hq (fun z => g1 (h_eq.1 z)) (fun z => g2 (h_eq.2 z))
theorem Ok.lcmp_eq (C : Cx W Z own nm bc maxL rt) {x y : Int64} {o : Int} (hd0 : decode bc pc = .ok (.lcmp, 1)) (hd : decode bc (pc + 1) = .ok (.ifCond .eq o, 3)) (t q : Nat) (ht : ((pc + 1 : Nat) : Int) + o = t) (hq : pc + 1 + 3 = q) (g1 : x.toInt = y.toInt → Ok W R n0 Q h k n t Ls st) (g2 : x.toInt ≠ y.toInt → Ok W R n0 Q h k n q Ls st) : Ok W R n0 Q h k n pc Ls (.long y :: .long x :: st) :=
  Ok.lcmp C hd0 _ rfl (Ok.if_eq C hd t q ht hq (fun z => g1 (by have := lw_z x y; omega)) (fun z => g2 (by have := lw_z x y; omega)))
theorem Ok.icmp_ne (C : Cx W Z own nm bc maxL rt) {x y : Int32} {o : Int} (hd : decode bc pc = .ok (.if_icmp .ne o, 3)) (t q : Nat) (ht : (pc : Int) + o = t) (hq : pc + 3 = q) (g1 : x.toInt ≠ y.toInt → Ok W R n0 Q h k n t Ls st) (g2 : x.toInt = y.toInt → Ok W R n0 Q h k n q Ls st) : Ok W R n0 Q h k n pc Ls (.int y :: .int x :: st) :=
  Ok.icmpB C hd t q ht hq (fun z => g1 (h_ne.1 z)) (fun z => g2 (h_ne.2 z))
theorem Ok.if_ne (C : Cx W Z own nm bc maxL rt) {x : Int32} {o : Int} (hd : decode bc pc = .ok (.ifCond .ne o, 3)) (t q : Nat) (ht : (pc : Int) + o = t) (hq : pc + 3 = q) (g1 : x.toInt ≠ 0 → Ok W R n0 Q h k n t Ls st) (g2 : x.toInt = 0 → Ok W R n0 Q h k n q Ls st) : Ok W R n0 Q h k n pc Ls (.int x :: st) :=
  Ok.ifB C hd t q ht hq (fun z => g1 (h_ne.1 z)) (fun z => g2 (h_ne.2 z))
theorem Ok.lcmp_ne (C : Cx W Z own nm bc maxL rt) {x y : Int64} {o : Int} (hd0 : decode bc pc = .ok (.lcmp, 1)) (hd : decode bc (pc + 1) = .ok (.ifCond .ne o, 3)) (t q : Nat) (ht : ((pc + 1 : Nat) : Int) + o = t) (hq : pc + 1 + 3 = q) (g1 : x.toInt ≠ y.toInt → Ok W R n0 Q h k n t Ls st) (g2 : x.toInt = y.toInt → Ok W R n0 Q h k n q Ls st) : Ok W R n0 Q h k n pc Ls (.long y :: .long x :: st) :=
  Ok.lcmp C hd0 _ rfl (Ok.if_ne C hd t q ht hq (fun z => g1 (by have := lw_z x y; omega)) (fun z => g2 (by have := lw_z x y; omega)))
/-! the heap -/
theorem Ok.getfield (C : Cx W Z own nm bc maxL rt) {O f d : String} {i : Nat} {a : Addr} {v : Value} (w : (Jvm.Cond.fieldLink own i O f d).before a0 Z = true) (hd : decode bc pc = .ok (.getfield i, 3)) (F : Fld Z h a O f d v) (q : Nat) (hq : pc + 3 = q) (g : Ok W R n0 Q h k n q Ls (v :: st)) : Ok W R n0 Q h k n pc Ls (.ref a :: st) := by
  subst hq
  exact g.move fun T locs X e => getF X C.1 C.2.1 C.2.2.2.2.1 (host := "") (Or.inl w) Via.refl e F (g := mkF W.m pc Ls.toArray (.ref a :: st)) rfl rfl (hb C.2.2.1 hd)
theorem Ok.putfield (C : Cx W Z own nm bc maxL rt) {O f d K : String} {i kk : Nat} {a : Addr} {v old : Value} {ty : FieldType} (w : (Jvm.Cond.fieldLink own i O f d).before a0 Z = true) (hd : decode bc pc = .ok (.putfield i, 3)) (F : Fld Z h a O f d old) (E : Exa Z h a K) (L : (Jvm.Cond.lays K O f d).before a0 Z = true ∨ ((Jvm.Cond.laysFinal K O f d).before a0 Z = true ∧ own = O ∧ nm = "<init>")) (wi : (Jvm.Cond.instantiable K kk).before a0 Z = true)
    (hty : parseFieldDescriptor d = some ty) (hn : narrow ty v = v) (hf : fits ty v = true) (hN : n0 ≤ a) (q : Nat) (hq : pc + 3 = q) (g : ∀ h', Wr h h' a (Jvm.RoadKit.slotOf Z O f d) v → Fld Z h' a O f d v → Ok W R n0 Q h' k n q Ls st) : Ok W R n0 Q h k n pc Ls (v :: .ref a :: st) := fun T locs X e N => by
  subst hq
  obtain ⟨T', h', X', e', Wr', st'⟩ := putF X C.1 C.2.1 C.2.2.2.2.1 (host := "") (Or.inl w) Via.refl e F E (L.imp id fun z => ⟨z.1, z.2.1, C.2.2.2.2.2.2.2.trans z.2.2⟩) wi hty hn hf (g := mkF W.m pc Ls.toArray (v :: .ref a :: st)) rfl rfl (hb C.2.2.1 hd)
  obtain ⟨s₂, o, S, r⟩ := g h' Wr' (F.same Wr') T' _ X' e' (Fr.snoc X' N hN)
  exact ⟨s₂, o, st' _ S, r⟩
theorem Ok.new (C : Cx W Z own nm bc maxL rt) {K : String} {i m : Nat} (w : (Jvm.Cond.classLink own i K).before a0 Z = true) (wi : (Jvm.Cond.instantiable K m).before a0 Z = true) (wz : (Jvm.Cond.initialized K).before a0 Z = true) (hd : decode bc pc = .ok (.new i, 3)) (hc : k + 1 ≤ R.cells) (hl : n + m ≤ R.slots) (q : Nat) (hq : pc + 3 = q)
    (g : ∀ h' a, a = h.size → Ext h h' → Exa Z h' a K → (∀ {O nm d : String} {ty : FieldType}, Laid Z a0 K O nm d → parseFieldDescriptor d = some ty → Fld Z h' a O nm d (defaultValue ty)) → Ok W R n0 Q h' (k + 1) (n + m) q Ls (.ref a :: st)) : Ok W R n0 Q h k n pc Ls st := fun T locs X e N => by
  subst hq
  obtain ⟨T', h', X', e', E', A', D', -, st'⟩ := newO X C.1 C.2.1 C.2.2.2.2.1 w wi wz e (g := mkF W.m pc Ls.toArray st) rfl (hb C.2.2.1 hd) hc hl
  obtain ⟨s₂, o, S, r⟩ := g h' _ rfl E' A' D' T' _ X' e' N
  exact ⟨s₂, o, st' _ S, r⟩
/-- the array at a holds vs -/
def AI (Z : State) (h : Heap) (a : Addr) (ty : FieldType) (vs : List Value) : Prop := ∃ c : Cell, Arr Z h a c ty ∧ c.slots = vs.toArray
theorem AI.lt {a : Addr} {ty : FieldType} {vs : List Value} (F : AI Z h a ty vs) : a < h.size := by obtain ⟨c, A, -⟩ := F; exact A.lt
theorem AI.ext {h' : Heap} {a : Addr} {ty : FieldType} {vs : List Value} (F : AI Z h a ty vs) (E : Ext h h') : AI Z h' a ty vs := by obtain ⟨c, A, r⟩ := F; exact ⟨c, A.ext E, r⟩
theorem AI.other {h' : Heap} {a b : Addr} {sl : Nat} {v : Value} {ty : FieldType} {vs : List Value} (F : AI Z h b ty vs) (W : Wr h h' a sl v) (q : b ≠ a) : AI Z h' b ty vs := by obtain ⟨c, A, r⟩ := F; exact ⟨c, A.other W q, r⟩
theorem AI.keep {h' : Heap} {a : Addr} {ws : List Addr} {ty : FieldType} {vs : List Value} (F : AI Z h a ty vs) (K : Keep h h' ws) (q : a ∉ ws) : AI Z h' a ty vs := by obtain ⟨c, A, r⟩ := F; exact ⟨c, ⟨K.2.1 a c A.1 q, A.2⟩, r⟩
theorem AI.same {h' : Heap} {a : Addr} {i : Nat} {v : Value} {ty : FieldType} {vs : List Value} (F : AI Z h a ty vs) (W : Wr h h' a i v) : AI Z h' a ty (vs.set i v) := by
  obtain ⟨c, A, r⟩ := F; exact ⟨_, A.same W, by simp [Cell.setSlot, r]⟩
theorem ne_AI {a b : Addr} {K : String} {kk : Nat} {ty : FieldType} {vs : List Value} (E : Exa Z h a K) (wi : (Jvm.Cond.instantiable K kk).before a0 Z = true) (F : AI Z h b ty vs) : a ≠ b := by obtain ⟨c, A, -⟩ := F; exact ne_arr E wi A
theorem own_nat {j : Int32} {i : Nat} (hj : j.toInt = i) : j.toNatClampNeg = i ∧ ¬ j < 0 := by
  have h2 : ¬ j < 0 := by rw [Int32.lt_iff_toInt_lt, z32]; omega
  have h3 := nat_of h2
  exact ⟨by omega, h2⟩
theorem own_in {c : Cell} {j : Int32} {i : Nat} {vs : List Value} (hj : j.toInt = i) (hc : c.slots = vs.toArray) (hi : i < vs.length) : ¬ (j < 0 ∨ c.slots.size ≤ j.toNatClampNeg) := by
  obtain ⟨h1, h2⟩ := own_nat hj
  rintro (h3 | h3)
  · exact h2 h3
  · rw [hc, h1] at h3; simp at h3; omega
theorem own_at {c : Cell} {j : Int32} {i : Nat} {vs : List Value} {v : Value} (hj : j.toInt = i) (hc : c.slots = vs.toArray) (hv : vs[i]? = some v) : c.slots[j.toNatClampNeg]? = some v := by
  rw [(own_nat hj).1, hc]; simpa using hv
theorem own_bd {i : Nat} {vs : List Value} {v : Value} (hv : vs[i]? = some v) : i < vs.length := (List.getElem?_eq_some_iff.mp hv).1
theorem Ok.newarray (C : Cx W Z own nm bc maxL rt) {aty : ArrayType} {ty : FieldType} {z : Int32} (w : (Jvm.Cond.arrayClass ty).before a0 Z = true) (hd : decode bc pc = .ok (.newarray aty, 2)) (hty : newarray.typeOf aty = ty) (i : Nat) (hz : z.toInt = i) (hb' : i * 8 ≤ 536870912) (cap : Nat) (hcap : i ≤ cap) (hb2 : cap * 8 ≤ 536870912) (hc : k + 1 ≤ R.cells) (hl : n + cap ≤ R.slots) (q : Nat) (hq : pc + 2 = q)
    (g : ∀ h' a, a = h.size → Ext h h' → AI Z h' a ty (List.replicate i (defaultValue ty)) → Ok W R n0 Q h' (k + 1) (n + cap) q Ls (.ref a :: st)) : Ok W R n0 Q h k n pc Ls (.int z :: st) := fun T locs X e N => by
  subst hq hty
  obtain ⟨z1, z2⟩ := own_nat hz
  obtain ⟨T', h', cA, X', e', E', A', st'⟩ := newP X C.1 C.2.1 w e (g := mkF W.m pc Ls.toArray (.int z :: st)) rfl (hb C.2.2.1 hd) rfl z2 (cap := cap) (by omega) hb2 hc hl
  obtain ⟨s₂, o, S, r⟩ := g h' _ rfl E' ⟨_, A', by simp [newA, z1]⟩ T' _ X' e' N
  exact ⟨s₂, o, st' _ S, r⟩
theorem Ok.arraylength (C : Cx W Z own nm bc maxL rt) {a : Addr} {ty : FieldType} {vs : List Value} (hd : decode bc pc = .ok (.arraylength, 1)) (F : AI Z h a ty vs) (z : Int32) (hz : vs.length.toInt32 = z) (q : Nat) (hq : pc + 1 = q) (g : Ok W R n0 Q h k n q Ls (.int z :: st)) : Ok W R n0 Q h k n pc Ls (.ref a :: st) := by
  subst hq hz
  obtain ⟨c, A, hc⟩ := F
  have hs : c.slots.size = vs.length := by rw [hc]; simp
  rw [← hs] at g
  exact g.back fun T locs X e t s => X.arraylength C.1 (by rw [e]; exact A.1) (State.isArrayOf_alike C.2.1.alike A.2.1) (g := mkF W.m pc Ls.toArray (.ref a :: st)) rfl rfl (hb C.2.2.1 hd) t s
theorem Ok.iaload (C : Cx W Z own nm bc maxL rt) {a : Addr} {j : Int32} {v : Value} {vs : List Value} (hd : decode bc pc = .ok (.iaload, 1)) (F : AI Z h a .int vs) (i : Nat) (hj : j.toInt = i) (hv : vs[i]? = some v) (q : Nat) (hq : pc + 1 = q) (g : Ok W R n0 Q h k n q Ls (v :: st)) : Ok W R n0 Q h k n pc Ls (.int j :: .ref a :: st) := by
  subst hq
  obtain ⟨c, A, hc⟩ := F
  exact g.back fun T locs X e t s => X.iaload C.1 (j := j) (v := v) (by rw [e]; exact A.1) (State.isArrayOf_alike C.2.1.alike A.2.1) A.2.2 (own_in hj hc (own_bd hv)) (own_at hj hc hv) (g := mkF W.m pc Ls.toArray (.int j :: .ref a :: st)) rfl rfl (hb C.2.2.1 hd) t s
theorem Ok.laload (C : Cx W Z own nm bc maxL rt) {a : Addr} {j : Int32} {v : Value} {vs : List Value} (hd : decode bc pc = .ok (.laload, 1)) (F : AI Z h a .long vs) (i : Nat) (hj : j.toInt = i) (hv : vs[i]? = some v) (q : Nat) (hq : pc + 1 = q) (g : Ok W R n0 Q h k n q Ls (v :: st)) : Ok W R n0 Q h k n pc Ls (.int j :: .ref a :: st) := by
  subst hq
  obtain ⟨c, A, hc⟩ := F
  exact g.back fun T locs X e t s => X.laload C.1 (j := j) (v := v) (by rw [e]; exact A.1) (State.isArrayOf_alike C.2.1.alike A.2.1) A.2.2 (own_in hj hc (own_bd hv)) (own_at hj hc hv) (g := mkF W.m pc Ls.toArray (.int j :: .ref a :: st)) rfl rfl (hb C.2.2.1 hd) t s
theorem Ok.baload (C : Cx W Z own nm bc maxL rt) {a : Addr} {j : Int32} {v : Value} {vs : List Value} (hd : decode bc pc = .ok (.baload, 1)) (F : AI Z h a .byte vs) (i : Nat) (hj : j.toInt = i) (hv : vs[i]? = some v) (q : Nat) (hq : pc + 1 = q) (g : Ok W R n0 Q h k n q Ls (v :: st)) : Ok W R n0 Q h k n pc Ls (.int j :: .ref a :: st) := by
  subst hq
  obtain ⟨c, A, hc⟩ := F
  exact g.back fun T locs X e t s => X.baloadBytes C.1 (j := j) (v := v) (by rw [e]; exact A.1) (State.isArrayOf_alike C.2.1.alike A.2.1) A.2.2 (own_in hj hc (own_bd hv)) (own_at hj hc hv) (g := mkF W.m pc Ls.toArray (.int j :: .ref a :: st)) rfl rfl (hb C.2.2.1 hd) t s
theorem Ok.zaload (C : Cx W Z own nm bc maxL rt) {a : Addr} {j : Int32} {v : Value} {vs : List Value} (hd : decode bc pc = .ok (.baload, 1)) (F : AI Z h a .boolean vs) (i : Nat) (hj : j.toInt = i) (hv : vs[i]? = some v) (q : Nat) (hq : pc + 1 = q) (g : Ok W R n0 Q h k n q Ls (v :: st)) : Ok W R n0 Q h k n pc Ls (.int j :: .ref a :: st) := by
  subst hq
  obtain ⟨c, A, hc⟩ := F
  exact g.back fun T locs X e t s => X.baloadBooleans C.1 (j := j) (v := v) (by rw [e]; exact A.1) (State.isArrayOf_alike C.2.1.alike A.2.1) A.2.2 (own_in hj hc (own_bd hv)) (own_at hj hc hv) (g := mkF W.m pc Ls.toArray (.int j :: .ref a :: st)) rfl rfl (hb C.2.2.1 hd) t s
theorem Ok.iastore (C : Cx W Z own nm bc maxL rt) {a : Addr} {j : Int32} {x : Int32} {vs : List Value} (hd : decode bc pc = .ok (.iastore, 1)) (F : AI Z h a .int vs) (i : Nat) (hj : j.toInt = i) (hi : i < vs.length) (hN : n0 ≤ a) (q : Nat) (hq : pc + 1 = q) (g : ∀ h', Wr h h' a i (.int x) → AI Z h' a .int (vs.set i (.int x)) → Ok W R n0 Q h' k n q Ls st) : Ok W R n0 Q h k n pc Ls (.int x :: .int j :: .ref a :: st) := fun T locs X e N => by
  subst hq
  obtain ⟨c, A, hc⟩ := F
  obtain ⟨T', h', X', e', Wr', st'⟩ := stI X C.1 C.2.1 e A (j := j) (x := x) (own_in hj hc hi) (g := mkF W.m pc Ls.toArray (.int x :: .int j :: .ref a :: st)) rfl rfl (hb C.2.2.1 hd)
  have N' := Fr.snoc X' N hN
  rw [(own_nat hj).1] at Wr'
  obtain ⟨s₂, o, S, r⟩ := g h' Wr' (AI.same ⟨c, A, hc⟩ Wr') T' _ X' e' N'
  exact ⟨s₂, o, st' _ S, r⟩
theorem Ok.lastore (C : Cx W Z own nm bc maxL rt) {a : Addr} {j : Int32} {x : Int64} {vs : List Value} (hd : decode bc pc = .ok (.lastore, 1)) (F : AI Z h a .long vs) (i : Nat) (hj : j.toInt = i) (hi : i < vs.length) (hN : n0 ≤ a) (q : Nat) (hq : pc + 1 = q) (g : ∀ h', Wr h h' a i (.long x) → AI Z h' a .long (vs.set i (.long x)) → Ok W R n0 Q h' k n q Ls st) : Ok W R n0 Q h k n pc Ls (.long x :: .int j :: .ref a :: st) := fun T locs X e N => by
  subst hq
  obtain ⟨c, A, hc⟩ := F
  obtain ⟨T', h', X', e', Wr', st'⟩ := stJ X C.1 C.2.1 e A (j := j) (x := x) (own_in hj hc hi) (g := mkF W.m pc Ls.toArray (.long x :: .int j :: .ref a :: st)) rfl rfl (hb C.2.2.1 hd)
  have N' := Fr.snoc X' N hN
  rw [(own_nat hj).1] at Wr'
  obtain ⟨s₂, o, S, r⟩ := g h' Wr' (AI.same ⟨c, A, hc⟩ Wr') T' _ X' e' N'
  exact ⟨s₂, o, st' _ S, r⟩
theorem Ok.bastore (C : Cx W Z own nm bc maxL rt) {a : Addr} {j : Int32} {x : Int32} {vs : List Value} (hd : decode bc pc = .ok (.bastore, 1)) (F : AI Z h a .byte vs) (i : Nat) (hj : j.toInt = i) (hi : i < vs.length) (hN : n0 ≤ a) (q : Nat) (hq : pc + 1 = q) (g : ∀ h', Wr h h' a i (.int (x.toInt8.toInt32)) → AI Z h' a .byte (vs.set i (.int (x.toInt8.toInt32))) → Ok W R n0 Q h' k n q Ls st) : Ok W R n0 Q h k n pc Ls (.int x :: .int j :: .ref a :: st) := fun T locs X e N => by
  subst hq
  obtain ⟨c, A, hc⟩ := F
  obtain ⟨T', h', X', e', Wr', st'⟩ := stB X C.1 C.2.1 e A (j := j) (x := x) (own_in hj hc hi) (g := mkF W.m pc Ls.toArray (.int x :: .int j :: .ref a :: st)) rfl rfl (hb C.2.2.1 hd)
  have N' := Fr.snoc X' N hN
  rw [(own_nat hj).1] at Wr'
  obtain ⟨s₂, o, S, r⟩ := g h' Wr' (AI.same ⟨c, A, hc⟩ Wr') T' _ X' e' N'
  exact ⟨s₂, o, st' _ S, r⟩
theorem Ok.zastore (C : Cx W Z own nm bc maxL rt) {a : Addr} {j : Int32} {x : Int32} {vs : List Value} (hd : decode bc pc = .ok (.bastore, 1)) (F : AI Z h a .boolean vs) (i : Nat) (hj : j.toInt = i) (hi : i < vs.length) (hN : n0 ≤ a) (q : Nat) (hq : pc + 1 = q) (g : ∀ h', Wr h h' a i (.int (x &&& 1)) → AI Z h' a .boolean (vs.set i (.int (x &&& 1))) → Ok W R n0 Q h' k n q Ls st) : Ok W R n0 Q h k n pc Ls (.int x :: .int j :: .ref a :: st) := fun T locs X e N => by
  subst hq
  obtain ⟨c, A, hc⟩ := F
  obtain ⟨T', h', X', e', Wr', st'⟩ := stZ X C.1 C.2.1 e A (j := j) (x := x) (own_in hj hc hi) (g := mkF W.m pc Ls.toArray (.int x :: .int j :: .ref a :: st)) rfl rfl (hb C.2.2.1 hd)
  have N' := Fr.snoc X' N hN
  rw [(own_nat hj).1] at Wr'
  obtain ⟨s₂, o, S, r⟩ := g h' Wr' (AI.same ⟨c, A, hc⟩ Wr') T' _ X' e' N'
  exact ⟨s₂, o, st' _ S, r⟩
/-! the end -/
theorem Ok.fin {T : State} {locs : List Loc} {v : Option Value} (C : Cx W Z own nm bc maxL rt) (hv : rt = none → v = none) (X : Stand W.p W.l W.e R W.s W.m W.args W.below W.meth W.c T locs k n) (e : T.heap = h) (N : Fr n0 locs) (hk : k ≤ R.cells) (hn : n ≤ R.slots) (hQ : Q v h) {f : State}
    (hst : ∀ fs, (∀ (f : JFrame) (acts : List Action), f.method = W.m → f.locked = none → f.entered = [] → (doReturn W.e (T.setTop f) acts v).1 = T.setFrames fs) → Steps W.p.tables W.e W.below f (T.setFrames fs)) :
    ∃ s₂ o, Steps W.p.tables W.e W.below f s₂ ∧ s₂.status = .running ∧ Ended s₂ W.below o ∧ ∃ v L, o = .returned v ∧ (Q v s₂.heap ∧ Fr n0 L) ∧ FrameEnd W.s o s₂ L R.cells R.slots := by
  obtain ⟨fs, hr, hrun, hended, hW, hsame⟩ := X.leave (v := v) (fun z => hv (C.2.2.2.2.2.1.symm.trans z)) C.2.2.2.2.2.2.1
  have hQ' : Q v (T.setFrames fs).heap := by show Q v T.heap; rw [e]; exact hQ
  exact ⟨_, _, hst fs hr, hrun, hended, _, _, rfl, ⟨hQ', N⟩, ⟨_, rfl⟩, hW, hsame.mono hk hn⟩
theorem Ok.ireturn (C : Cx W Z own nm bc maxL (some .int)) {x : Int32} (hd : decode bc pc = .ok (.ireturn, 1)) (hk : k ≤ R.cells) (hn : n ≤ R.slots) (hQ : Q (some (.int x)) h) : Ok W R n0 Q h k n pc Ls (.int x :: st) := fun T locs X e N =>
  Ok.fin C (fun z => by cases z) X e N hk hn hQ fun fs hr => retOut X C.1 C.2.2.2.2.2.1 rfl (Or.inl ⟨rfl, Or.inl rfl, _, rfl⟩) (hb C.2.2.1 hd) hr
theorem Ok.zreturn (C : Cx W Z own nm bc maxL (some .boolean)) {x : Int32} (hd : decode bc pc = .ok (.ireturn, 1)) (hk : k ≤ R.cells) (hn : n ≤ R.slots) (hQ : Q (some (.int (x &&& 1))) h) : Ok W R n0 Q h k n pc Ls (.int x :: st) := fun T locs X e N =>
  Ok.fin C (fun z => by cases z) X e N hk hn hQ fun fs hr => retN X C.1 (t := .boolean) C.2.2.2.2.2.1 (Or.inl rfl) (hb C.2.2.1 hd) hr
theorem Ok.lreturn (C : Cx W Z own nm bc maxL (some .long)) {x : Int64} (hd : decode bc pc = .ok (.lreturn, 1)) (hk : k ≤ R.cells) (hn : n ≤ R.slots) (hQ : Q (some (.long x)) h) : Ok W R n0 Q h k n pc Ls (.long x :: st) := fun T locs X e N =>
  Ok.fin C (fun z => by cases z) X e N hk hn hQ fun fs hr => retOut X C.1 C.2.2.2.2.2.1 rfl (Or.inr (Or.inl ⟨rfl, rfl, _, rfl⟩)) (hb C.2.2.1 hd) hr
theorem Ok.vreturn (C : Cx W Z own nm bc maxL none) (hd : decode bc pc = .ok (.return_, 1)) (hk : k ≤ R.cells) (hn : n ≤ R.slots) (hQ : Q none h) : Ok W R n0 Q h k n pc Ls [] := fun T locs X e N =>
  Ok.fin C (fun _ => rfl) X e N hk hn hQ fun fs hr => X.returnOut C.1 C.2.2.2.2.2.1 (hb C.2.2.1 hd) hr
/-! calls -/
/-- the method y, called with as' over the heap h, returns with Q -/
def Does (l : Launch) (Z : State) (y : MethodName) (bytes : ByteArray) (mL : Nat) (rt : Option FieldType) (rm : Room) (as' : Array Value) (h : Heap) (n0 : Nat) (Q : Option Value → Heap → Prop) : Prop :=
  MetFree l y (head1 [Jvm.Cond.code y bytes mL rt] rm) (fun a U => a = as' ∧ Z.Warmed39 U.vm ∧ U.heap = h) (fun _ _ _ _ _ => True) (fun _ U o U' => ∃ v L, o = .returned v ∧ (Q v U'.heap ∧ Fr n0 L) ∧ FrameEnd U o U' L rm.cells rm.slots)
def DoesW (l : Launch) (Z : State) (y : MethodName) (bytes : ByteArray) (mL : Nat) (rt : Option FieldType) (rm : Room) (ws : List Jvm.Cond) (as' : Array Value) (h : Heap) (n0 : Nat) (Q : Option Value → Heap → Prop) : Prop :=
  MetFree l y (head1 (Jvm.Cond.code y bytes mL rt :: ws) rm) (fun a U => a = as' ∧ Z.Warmed39 U.vm ∧ U.heap = h) (fun _ _ _ _ _ => True) (fun _ U o U' => ∃ v L, o = .returned v ∧ (Q v U'.heap ∧ Fr n0 L) ∧ FrameEnd U o U' L rm.cells rm.slots)
theorem DoesW.of_body {l : Launch} {y : MethodName} {bytes : ByteArray} {mL : Nat} {rm : Room} {ws : List Jvm.Cond} {as' : Array Value} (hpl : plainFor y = true) (Ls0 : List Slot) (ef : ∀ m, entryFrame m as' mL = mkF m 0 Ls0.toArray [])
    (g : ∀ W : Wd, W.l = l → Cx W Z y.cls y.name bytes mL rt → Ok W rm n0 Q h 0 0 0 Ls0 []) : DoesW l Z y bytes mL rt rm ws as' h n0 Q := by
  unfold DoesW
  refine MetFree.of_bodySF hpl hisR ?_
  intro p e s m args below meth c s₁ Bd hml0 hP hK
  obtain ⟨rfl, hZ, hh⟩ := hP
  have X0 : Stand p l e rm s m args below meth c s₁ [] 0 0 := Stand.of_body Bd
  have e0 : s₁.heap = h := by rw [← hh, Bd.state]; rfl
  obtain ⟨s₂, o, S, r⟩ := g (p, l, e, s, m, args, below, meth, c) rfl ⟨Bd.exec, hZ, Bd.bytes, hml0, findClass_of_methodNamed Bd.named, Bd.returns, Bd.notSynchronized, (name_of_methodNamed Bd.named Bd.method).1⟩ s₁ [] X0 e0 (Fr.nil n0)
  exact ⟨s₂, o, castTop (ef m) S, r⟩
theorem Does.of_body {l : Launch} {y : MethodName} {bytes : ByteArray} {mL : Nat} {rm : Room} {as' : Array Value} (hpl : plainFor y = true) (Ls0 : List Slot) (ef : ∀ m, entryFrame m as' mL = mkF m 0 Ls0.toArray [])
    (g : ∀ W : Wd, W.l = l → Cx W Z y.cls y.name bytes mL rt → Ok W rm n0 Q h 0 0 0 Ls0 []) : Does l Z y bytes mL rt rm as' h n0 Q := DoesW.of_body (ws := []) hpl Ls0 ef g
theorem own_after {v : Option Value} {q : Nat} {rest : List Value} {rm : Room} {T : State} {locs L : List Loc} {h' : Heap} (g : Ok W R n0 Q h' (k + rm.cells) (n + rm.slots) q Ls (v.toList ++ rest)) (N : Fr n0 locs) (N' : Fr n0 L) (X : Stand W.p W.l W.e R W.s W.m W.args W.below W.meth W.c T (locs ++ L) (k + rm.cells) (n + rm.slots)) (e : T.heap = h') :
    ∃ s₂ o, Steps W.p.tables W.e W.below (T.setTop (mkF W.m q Ls.toArray (v.toList ++ rest))) s₂ ∧ s₂.status = .running ∧ Ended s₂ W.below o ∧ ∃ v L, o = .returned v ∧ (Q v s₂.heap ∧ Fr n0 L) ∧ FrameEnd W.s o s₂ L R.cells R.slots := g T _ X e (N.app N')
theorem Ok.callStatic (C : Cx W Z own nm bc maxL rt) {i : Nat} {y : MethodName} {bytes : ByteArray} {mL : Nat} {rt' : Option FieldType} {rm : Room} {ps : List FieldType} {Q' : Option Value → Heap → Prop} (argsL rest : List Value) (hs : st = argsL.reverse ++ rest)
    (w1 : (Jvm.Cond.methodLink own i y).before a0 Z = true) (w2 : (Jvm.Cond.static y).before a0 Z = true) (w3 : (Jvm.Cond.initialized y.cls).before a0 Z = true) (w4 : (Jvm.Cond.code y bytes mL rt').before a0 Z = true) (hd : decode bc pc = .ok (.invokestatic i, 3))
    (hm : y.cls ≠ "java/lang/invoke/MethodHandle" ∧ y.cls ≠ "java/lang/invoke/VarHandle") (pd : parseMethodDescriptor y.desc = some ⟨ps, rt'⟩) (hlen : argsL.length = ps.length) (hsz : Ls.length = maxL)
    (D : Does W.l Z y bytes mL rt' rm argsL.toArray h n0 Q') (hf : rm.frames + 1 ≤ R.frames) (wt : Nat) (hwt : (rest.map fun v => v.category).sum = wt) (hl : wt + (mL + 11) + rm.locals ≤ R.locals) (hc : k + rm.cells ≤ R.cells) (hsl : n + rm.slots ≤ R.slots) (q : Nat) (hq : pc + 3 = q)
    (g : ∀ v h', Q' v h' → Ok W R n0 Q h' (k + rm.cells) (n + rm.slots) q Ls (v.toList ++ rest)) : Ok W R n0 Q h k n pc Ls st := fun T locs X e N => by
  subst hq hs
  obtain ⟨v, vm1, ⟨T', L', k', n'⟩, -, X', ⟨Lc, hQ, l1, y1, z1⟩, st'⟩ := Jvm.LawKit.callS X C.1 (y := y) C.2.2.2.2.1 (mvT C.2.1 w1) (mvT C.2.1 w2) (mvT C.2.1 w3) (mvT C.2.1 w4) hm (backOf (W := wt) (R := R) (Q := fun v h L => Q' v h ∧ Fr n0 L) D C.2.1 w4 w3 hf hl) (g := mkF W.m pc Ls.toArray (argsL.reverse ++ rest)) rfl (by rw [C.2.2.2.1, ← hsz]; simp) (argsL := argsL) (rest := rest) (lenOf pd hlen) rfl (by show 2 * 0 + _ ≤ _; omega) (hb C.2.2.1 hd) (fun _ _ => ⟨rfl, e, hc, hsl⟩)
  dsimp only [Pt.U, Pt.locs, Pt.cells, Pt.slots] at X' l1 y1 z1 st' hQ
  subst l1 y1 z1
  obtain ⟨s₂, o, S, r⟩ := own_after (g v _ hQ.1) N hQ.2 X' rfl
  exact ⟨s₂, o, st' _ S, r⟩
theorem Ok.callInit (C : Cx W Z own nm bc maxL rt) {i : Nat} {y : MethodName} {bytes : ByteArray} {mL : Nat} {rm : Room} {ps : List FieldType} {Q' : Option Value → Heap → Prop} {a : Addr} (argsL rest : List Value) (hs : st = argsL.reverse ++ .ref a :: rest) (hy1 : y.name = "<init>")
    (w1 : (Jvm.Cond.methodLink own i y).before a0 Z = true) (w2 : (Jvm.Cond.instanceMethod y).before a0 Z = true) (w3 : (Jvm.Cond.initialized y.cls).before a0 Z = true) (w4 : (Jvm.Cond.code y bytes mL none).before a0 Z = true) (hd : decode bc pc = .ok (.invokespecial i, 3))
    (hm : y.cls ≠ "java/lang/invoke/MethodHandle" ∧ y.cls ≠ "java/lang/invoke/VarHandle") (pd : parseMethodDescriptor y.desc = some ⟨ps, none⟩) (hlen : argsL.length = ps.length) (hsz : Ls.length = maxL)
    (D : Does W.l Z y bytes mL none rm (.ref a :: argsL).toArray h n0 Q') (hf : rm.frames + 1 ≤ R.frames) (wt : Nat) (hwt : (rest.map fun v => v.category).sum = wt) (hl : wt + (mL + 11) + rm.locals ≤ R.locals) (hc : k + rm.cells ≤ R.cells) (hsl : n + rm.slots ≤ R.slots) (q : Nat) (hq : pc + 3 = q)
    (g : ∀ v h', Q' v h' → Ok W R n0 Q h' (k + rm.cells) (n + rm.slots) q Ls (v.toList ++ rest)) : Ok W R n0 Q h k n pc Ls st := fun T locs X e N => by
  subst hq hs
  obtain ⟨v, vm1, ⟨T', L', k', n'⟩, -, X', ⟨Lc, hQ, l1, y1, z1⟩, st'⟩ := X.specialBack C.1 (y := y) hy1 C.2.2.2.2.1 (mvT C.2.1 w1) (mvT C.2.1 w2) (mvT C.2.1 w4) hm (backOf (W := wt) (R := R) (Q := fun v h L => Q' v h ∧ Fr n0 L) D C.2.1 w4 w3 hf hl) (g := mkF W.m pc Ls.toArray (argsL.reverse ++ .ref a :: rest)) rfl (by rw [C.2.2.2.1, ← hsz]; simp) (Steps.refl _) (a := a) (argsL := argsL) (rest := rest) (lenOf pd hlen) rfl (by show 2 * 0 + _ ≤ _; omega) (hb C.2.2.1 hd) (fun _ _ => ⟨rfl, e, hc, hsl⟩)
  dsimp only [Pt.U, Pt.locs, Pt.cells, Pt.slots] at X' l1 y1 z1 st' hQ
  subst l1 y1 z1
  obtain ⟨s₂, o, S, r⟩ := own_after (g v _ hQ.1) N hQ.2 X' rfl
  exact ⟨s₂, o, st'.trans S, r⟩
theorem Ok.callVirtual (C : Cx W Z own nm bc maxL rt) {i : Nat} {y : MethodName} {bytes : ByteArray} {mL : Nat} {rt' : Option FieldType} {rm : Room} {ps : List FieldType} {Q' : Option Value → Heap → Prop} {a : Addr} (argsL rest : List Value) (hs : st = argsL.reverse ++ .ref a :: rest)
    (w1 : (Jvm.Cond.methodLink own i y).before a0 Z = true) (w2 : (Jvm.Cond.declares y).before a0 Z = true) (w5 : (Jvm.Cond.selects y.cls y y).before a0 Z = true) (w6 : (Jvm.Cond.instanceMethod y).before a0 Z = true) (w3 : (Jvm.Cond.initialized y.cls).before a0 Z = true) (w4 : (Jvm.Cond.code y bytes mL rt').before a0 Z = true) (hd : decode bc pc = .ok (.invokevirtual i, 3))
    (hm : y.cls ≠ "java/lang/invoke/MethodHandle" ∧ y.cls ≠ "java/lang/invoke/VarHandle") (pd : parseMethodDescriptor y.desc = some ⟨ps, rt'⟩) (hlen : argsL.length = ps.length) (hsz : Ls.length = maxL) (E : Exa Z h a y.cls)
    (D : Does W.l Z y bytes mL rt' rm (.ref a :: argsL).toArray h n0 Q') (hf : rm.frames + 1 ≤ R.frames) (wt : Nat) (hwt : (rest.map fun v => v.category).sum = wt) (hl : wt + (mL + 11) + rm.locals ≤ R.locals) (hc : k + rm.cells ≤ R.cells) (hsl : n + rm.slots ≤ R.slots) (q : Nat) (hq : pc + 3 = q)
    (g : ∀ v h', Q' v h' → Ok W R n0 Q h' (k + rm.cells) (n + rm.slots) q Ls (v.toList ++ rest)) : Ok W R n0 Q h k n pc Ls st := fun T locs X e N => by
  subst hq hs
  obtain ⟨cq, kq, qa, qb, qc⟩ := isOf (T := T) C.2.1 e E
  obtain ⟨v, vm1, ⟨T', L', k', n'⟩, -, X', ⟨Lc, hQ, l1, y1, z1⟩, st'⟩ := X.virtualBack C.1 (y := y) (z := y) C.2.2.2.2.1 (mvT C.2.1 w1) (mvT C.2.1 w2) (notFace_of_selects (args := #[]) (mvT C.2.1 w5)) (mvT C.2.1 w5) (mvT C.2.1 w6) hm (backOf (W := wt) (R := R) (Q := fun v h L => Q' v h ∧ Fr n0 L) D C.2.1 w4 w3 hf hl) qa qc (g := mkF W.m pc Ls.toArray (argsL.reverse ++ .ref a :: rest)) rfl (by rw [C.2.2.2.1, ← hsz]; simp) (Steps.refl _) (argsL := argsL) (rest := rest) (lenOf pd hlen) rfl (by show 2 * 0 + _ ≤ _; omega) (hb C.2.2.1 hd) (fun _ _ => ⟨rfl, e, hc, hsl⟩)
  dsimp only [Pt.U, Pt.locs, Pt.cells, Pt.slots] at X' l1 y1 z1 st' hQ
  subst l1 y1 z1
  obtain ⟨s₂, o, S, r⟩ := own_after (g v _ hQ.1) N hQ.2 X' rfl
  exact ⟨s₂, o, st'.trans S, r⟩
theorem own_selects {a : Array Value} {s : State} {y0 y : MethodName} (hs : (Jvm.Cond.selects y0.cls y0 y0).before a s = true) (hi : (Jvm.Cond.instanceMethod y).before a s = true) (hp : (Jvm.Cond.privateMethod y).before a s = true) (hc : y.cls = y0.cls) (hm : y.cls ≠ "java/lang/invoke/MethodHandle" ∧ y.cls ≠ "java/lang/invoke/VarHandle") : (Jvm.Cond.selects y.cls y y).before a s = true := by
  obtain ⟨c, r, m, h1, h2, h3, h4, kk, h5, h6⟩ := Cond.selects_spec hs
  obtain ⟨mk, methM, hn, hmm, -, -⟩ := Cond.instanceMethod_spec hi
  have e1 : s.vm.findClass y0.cls = some m.cls := findClass_of_methodNamed h3
  have e2 : s.vm.findClass y.cls = some mk.cls := findClass_of_methodNamed hn
  have e3 : mk.cls = m.cls := by rw [hc, e1] at e2; exact (Option.some.inj e2).symm
  have hf := State.methodFound?_of_named hn hm
  have hsel : selectMethod {} s.vm mk.cls mk = .method mk := selectMethod_private hmm (Cond.privateMethod_at hp mk methM hn hmm)
  have hk : s.vm.classes[mk.cls]? = some kk := by rw [e3]; exact h5
  simp [Cond.before, Cond.holds, Cond.value, e2, hf, hn, hsel, hk, h6]
theorem Ok.callPrivate (C : Cx W Z own nm bc maxL rt) {i : Nat} {y y0 : MethodName} {bytes : ByteArray} {mL : Nat} {rt' : Option FieldType} {rm : Room} {ps : List FieldType} {Q' : Option Value → Heap → Prop} {a : Addr} (argsL rest : List Value) (hs : st = argsL.reverse ++ .ref a :: rest)
    (w1 : (Jvm.Cond.methodLink own i y).before a0 Z = true) (w6 : (Jvm.Cond.instanceMethod y).before a0 Z = true) (w7 : (Jvm.Cond.privateMethod y).before a0 Z = true) (w5 : (Jvm.Cond.selects y0.cls y0 y0).before a0 Z = true) (hcc : y.cls = y0.cls) (w3 : (Jvm.Cond.initialized y.cls).before a0 Z = true) (w4 : (Jvm.Cond.code y bytes mL rt').before a0 Z = true) (hd : decode bc pc = .ok (.invokevirtual i, 3))
    (hm : y.cls ≠ "java/lang/invoke/MethodHandle" ∧ y.cls ≠ "java/lang/invoke/VarHandle") (pd : parseMethodDescriptor y.desc = some ⟨ps, rt'⟩) (hlen : argsL.length = ps.length) (hsz : Ls.length = maxL) (E : Exa Z h a y.cls)
    (D : Does W.l Z y bytes mL rt' rm (.ref a :: argsL).toArray h n0 Q') (hf : rm.frames + 1 ≤ R.frames) (wt : Nat) (hwt : (rest.map fun v => v.category).sum = wt) (hl : wt + (mL + 11) + rm.locals ≤ R.locals) (hc : k + rm.cells ≤ R.cells) (hsl : n + rm.slots ≤ R.slots) (q : Nat) (hq : pc + 3 = q)
    (g : ∀ v h', Q' v h' → Ok W R n0 Q h' (k + rm.cells) (n + rm.slots) q Ls (v.toList ++ rest)) : Ok W R n0 Q h k n pc Ls st := fun T locs X e N => by
  subst hq hs
  obtain ⟨cq, q1, q2⟩ := E.cell
  obtain ⟨v, vm1, ⟨T', L', k', n'⟩, -, X', ⟨Lc, hQ, l1, y1, z1⟩, st'⟩ := X.privateBack C.1 (y := y) C.2.2.2.2.1 (mvT C.2.1 w1) (mvT C.2.1 w6) (mvT C.2.1 (own_selects w5 w6 w7 hcc hm)) (Cond.privateMethod_at (mvP C.2.1 w7 (args := #[]))) (mvT C.2.1 w4) hm (backOf (W := wt) (R := R) (Q := fun v h L => Q' v h ∧ Fr n0 L) D C.2.1 w4 w3 hf hl) (g := mkF W.m pc Ls.toArray (argsL.reverse ++ .ref a :: rest)) rfl (by rw [C.2.2.2.1, ← hsz]; simp) (Steps.refl _) (a := a) (by rw [e]; exact q1) q2 (argsL := argsL) (rest := rest) (lenOf pd hlen) rfl (by show 2 * 0 + _ ≤ _; omega) (hb C.2.2.1 hd) (fun _ _ => ⟨rfl, e, hc, hsl⟩)
  dsimp only [Pt.U, Pt.locs, Pt.cells, Pt.slots] at X' l1 y1 z1 st' hQ
  subst l1 y1 z1
  obtain ⟨s₂, o, S, r⟩ := own_after (g v _ hQ.1) N hQ.2 X' rfl
  exact ⟨s₂, o, st'.trans S, r⟩
/-! numbers -/
theorem own_add {t x y : Int32} (e : t = x + y) (h1 : -2147483648 ≤ x.toInt + y.toInt) (h2 : x.toInt + y.toInt < 2147483648) : t.toInt = x.toInt + y.toInt := by
  have := c_iadd x y; have := rng32 (x + y); subst e; omega
theorem own_sub {t x y : Int32} (e : t = x - y) (h1 : -2147483648 ≤ x.toInt - y.toInt) (h2 : x.toInt - y.toInt < 2147483648) : t.toInt = x.toInt - y.toInt := by
  have := c_isub x y; have := rng32 (x - y); subst e; omega
theorem own_lsub {t x y : Int64} (e : t = x - y) (h1 : -9223372036854775808 ≤ x.toInt - y.toInt) (h2 : x.toInt - y.toInt < 9223372036854775808) : t.toInt = x.toInt - y.toInt := by
  have := c_lsub x y; have := rng64 (x - y); subst e; omega
theorem own_ladd {t x y : Int64} (e : t = x + y) (h1 : -9223372036854775808 ≤ x.toInt + y.toInt) (h2 : x.toInt + y.toInt < 9223372036854775808) : t.toInt = x.toInt + y.toInt := by
  have := c_ladd x y; have := rng64 (x + y); subst e; omega
theorem own_one : (1 &&& 1 : Int32) = 1 := rfl
theorem own_zero : (0 &&& 1 : Int32) = 0 := rfl
end Own
theorem own_w {Z : State} {a0 : Array Value} (hw : ∀ d ∈ tables_1, d.before a0 Z = true) (i : Nat) {d : Jvm.Cond} (e : tables_1[i]? = some d) : d.before a0 Z = true := hw d (List.mem_of_getElem? e)
def own_dd (xs : List Int32) : Nat → List Int32
  | 0 => []
  | i + 1 => match xs[i]? with
    | some x => if (own_dd xs i).getLast? = some x then own_dd xs i else own_dd xs i ++ [x]
    | none => own_dd xs i
theorem own_dds {xs : List Int32} {i : Nat} {x : Int32} (h : xs[i]? = some x) : own_dd xs (i + 1) = if (own_dd xs i).getLast? = some x then own_dd xs i else own_dd xs i ++ [x] := by
  show (match xs[i]? with | some x => if (own_dd xs i).getLast? = some x then own_dd xs i else own_dd xs i ++ [x] | none => own_dd xs i) = _
  rw [h]
theorem own_ddl {xs : List Int32} {i : Nat} {x : Int32} (h : xs[i]? = some x) : (own_dd xs (i + 1)).getLast? = some x := by
  rw [own_dds h]; split
  · assumption
  · simp
theorem own_ddn {xs : List Int32} : ∀ i, i ≤ xs.length → (own_dd xs i).length ≤ i
  | 0, _ => by simp [own_dd]
  | i + 1, h => by
    have h1 := own_ddn (xs := xs) i (by omega)
    obtain ⟨x, hx⟩ : ∃ x, xs[i]? = some x := ⟨_, List.getElem?_eq_getElem (by omega)⟩
    rw [own_dds hx]; split
    · omega
    · simp; omega
theorem own_mp {L : List Int32} {i : Nat} {x : Int32} (h : L[i]? = some x) : (L.map Value.int)[i]? = some (.int x) := by rw [List.getElem?_map, h]; rfl
theorem own_rd {D xs : List Int32} {i : Nat} (h : D.length ≤ i) : (D ++ xs.drop D.length)[i]? = xs[i]? := by
  rw [List.getElem?_append_right h, List.getElem?_drop]; congr 1; omega
theorem own_wr {D xs : List Int32} {x : Int32} (h : D.length < xs.length) : ((D ++ xs.drop D.length).map Value.int).set D.length (.int x) = ((D ++ [x]) ++ xs.drop (D ++ [x]).length).map Value.int := by
  rw [← List.map_set]; congr 1
  have e : (xs.drop D.length).set 0 x = x :: xs.drop (D.length + 1) := by rw [List.drop_eq_getElem_cons h]; rfl
  rw [List.set_append_right _ _ (Nat.le_refl _), Nat.sub_self, e]
  simp
theorem own_we {D : List Int32} {x : Int32} (h : D.length < 5) : ((D ++ List.replicate (5 - D.length) 0).map Value.int).set D.length (.int x) = ((D ++ [x]) ++ List.replicate (5 - (D ++ [x]).length) 0).map Value.int := by
  rw [← List.map_set]; congr 1
  rw [List.set_append_right _ _ (Nat.le_refl _), Nat.sub_self, show 5 - D.length = (5 - (D ++ [x]).length) + 1 by simp; omega, List.replicate_succ]
  simp
theorem own_last {D xs : List Int32} {y : Int32} (h : D.getLast? = some y) : 1 ≤ D.length ∧ (D ++ xs.drop D.length)[D.length - 1]? = some y := by
  have h0 : D ≠ [] := fun e => by rw [e] at h; cases h
  have h1 : 0 < D.length := List.length_pos_iff.mpr h0
  refine ⟨h1, ?_⟩
  rw [List.getElem?_append_left (by omega), ← List.getLast?_eq_getElem?]; exact h
theorem own_yes {xs : List Int32} {i C : Nat} {x : Int32} (hi : i < C) (hx : xs[i]? = some x) (hne : (own_dd xs i).getLast? ≠ some x) : own_dd xs (min (i + 1) C) = own_dd xs (min i C) ++ [x] := by
  rw [Nat.min_eq_left (by omega), Nat.min_eq_left (by omega), own_dds hx, if_neg hne]
theorem own_no {xs : List Int32} {i C : Nat} {x : Int32} (hx : xs[i]? = some x) (h : C ≤ i ∨ (own_dd xs i).getLast? = some x) : own_dd xs (min (i + 1) C) = own_dd xs (min i C) := by
  rcases Nat.lt_or_ge i C with hc | hc
  · rw [Nat.min_eq_left (by omega), Nat.min_eq_left (by omega), own_dds hx, if_pos (h.resolve_left (by omega))]
  · rw [Nat.min_eq_right (by omega), Nat.min_eq_right (by omega)]
theorem own_cmp {D xs : List Int32} {j : Nat} (hD : D.length ≤ 5) (hx : xs.length = 5) (hj : j < 5) : ∃ u u' : Int32, ((D ++ xs.drop D.length).map Value.int)[j]? = some (.int u) ∧ ((D ++ List.replicate (5 - D.length) 0).map Value.int)[j]? = some (.int u') ∧ (j < D.length → u = u') ∧ (D.length ≤ j → xs[j]? = some u) := by
  by_cases h : j < D.length
  · refine ⟨D[j], D[j], own_mp ?_, own_mp ?_, fun _ => rfl, fun h' => by omega⟩
    · rw [List.getElem?_append_left h]; exact List.getElem?_eq_getElem h
    · rw [List.getElem?_append_left h]; exact List.getElem?_eq_getElem h
  · refine ⟨xs[j], 0, own_mp ?_, own_mp ?_, fun h' => absurd h' h, fun _ => List.getElem?_eq_getElem _⟩
    · rw [own_rd (by omega)]; exact List.getElem?_eq_getElem _
    · rw [List.getElem?_append_right (by omega), List.getElem?_replicate]; simp; omega
theorem own_ne {x y : Int32} (h : x.toInt ≠ y.toInt) : some x ≠ some y := fun e => h (by rw [Option.some.inj e])
theorem own_eq {x y : Int32} (h : x.toInt = y.toInt) : x = y := Int32.toInt_inj.mp h

theorem d1_0 : decode prog_74_method_6_code 0 = .ok (.iconst 0, 1) := by decide +kernel
theorem d1_1 : decode prog_74_method_6_code 1 = .ok (.istore_n 2, 1) := by decide +kernel
theorem d1_2 : decode prog_74_method_6_code 2 = .ok (.iconst 0, 1) := by decide +kernel
theorem d1_3 : decode prog_74_method_6_code 3 = .ok (.istore_n 3, 1) := by decide +kernel
theorem d1_4 : decode prog_74_method_6_code 4 = .ok (.iload_n 3, 1) := by decide +kernel
theorem d1_5 : decode prog_74_method_6_code 5 = .ok (.iload_n 1, 1) := by decide +kernel
theorem d1_6 : decode prog_74_method_6_code 6 = .ok (.if_icmp .ge 33, 3) := by decide +kernel
theorem d1_9 : decode prog_74_method_6_code 9 = .ok (.iload_n 2, 1) := by decide +kernel
theorem d1_10 : decode prog_74_method_6_code 10 = .ok (.ifCond .eq 14, 3) := by decide +kernel
theorem d1_13 : decode prog_74_method_6_code 13 = .ok (.aload_n 0, 1) := by decide +kernel
theorem d1_14 : decode prog_74_method_6_code 14 = .ok (.iload_n 3, 1) := by decide +kernel
theorem d1_15 : decode prog_74_method_6_code 15 = .ok (.iaload, 1) := by decide +kernel
theorem d1_16 : decode prog_74_method_6_code 16 = .ok (.aload_n 0, 1) := by decide +kernel
theorem d1_17 : decode prog_74_method_6_code 17 = .ok (.iload_n 2, 1) := by decide +kernel
theorem d1_18 : decode prog_74_method_6_code 18 = .ok (.iconst 1, 1) := by decide +kernel
theorem d1_19 : decode prog_74_method_6_code 19 = .ok (.isub, 1) := by decide +kernel
theorem d1_20 : decode prog_74_method_6_code 20 = .ok (.iaload, 1) := by decide +kernel
theorem d1_21 : decode prog_74_method_6_code 21 = .ok (.if_icmp .eq 12, 3) := by decide +kernel
theorem d1_24 : decode prog_74_method_6_code 24 = .ok (.aload_n 0, 1) := by decide +kernel
theorem d1_25 : decode prog_74_method_6_code 25 = .ok (.iload_n 2, 1) := by decide +kernel
theorem d1_26 : decode prog_74_method_6_code 26 = .ok (.iinc 2 1, 3) := by decide +kernel
theorem d1_29 : decode prog_74_method_6_code 29 = .ok (.aload_n 0, 1) := by decide +kernel
theorem d1_30 : decode prog_74_method_6_code 30 = .ok (.iload_n 3, 1) := by decide +kernel
theorem d1_31 : decode prog_74_method_6_code 31 = .ok (.iaload, 1) := by decide +kernel
theorem d1_32 : decode prog_74_method_6_code 32 = .ok (.iastore, 1) := by decide +kernel
theorem d1_33 : decode prog_74_method_6_code 33 = .ok (.iinc 3 1, 3) := by decide +kernel
theorem d1_36 : decode prog_74_method_6_code 36 = .ok (.goto (-32), 3) := by decide +kernel
theorem d1_39 : decode prog_74_method_6_code 39 = .ok (.iload_n 2, 1) := by decide +kernel
theorem d1_40 : decode prog_74_method_6_code 40 = .ok (.ireturn, 1) := by decide +kernel
theorem pn_1 : plainFor (⟨"com/example/twigwright/twigwright/NodeSet", "withoutRepeats", "([II)I"⟩ : MethodName) = true := by first | exact plainFor_of_name (by first | (simp [plainName, overriddenIn]; done) | decide +kernel) | decide +kernel
set_option maxRecDepth 65536 in
set_option maxHeartbeats 40000000 in
theorem rm_1 (l : Launch) (Z : State) (a0 : Array Value) (hw : ∀ d ∈ tables_1, d.before a0 Z = true) (a : Addr) (cnt : Int32) (xs : List Int32) (C : Nat) (h : Heap) (n0 : Nat) (Z0 : n0 ≤ h.size) (A_a : AI Z h a .int (xs.map Value.int)) (za : n0 ≤ a) (hc : cnt.toInt = (C : Int)) (hx5 : xs.length = 5) (hC : C ≤ 5) :
    Does l Z (⟨"com/example/twigwright/twigwright/NodeSet", "withoutRepeats", "([II)I"⟩ : MethodName) prog_74_method_6_code 4 (some .int) ({ frames := 0, cells := 0, slots := 0, locals := 0 } : Room) #[(.ref a), (.int cnt)] h n0 (fun v' h' => n0 ≤ h'.size ∧ ∃ x : Int32, v' = some (.int x) ∧ x.toInt = ((own_dd xs C).length : Int) ∧ AI Z h' a .int ((own_dd xs C ++ xs.drop (own_dd xs C).length).map Value.int) ∧ Keep h h' [a]) := by
  refine Does.of_body pn_1 [.val (.ref a), .val (.int cnt), .unset, .unset] (fun m => by first | (simp [entryFrame, mkF, argsToLocals, Value.category]; done) | rfl) ?_
  intro W hWl cx
  subst hWl
  have cx : Cx W Z "com/example/twigwright/twigwright/NodeSet" "withoutRepeats" prog_74_method_6_code 4 (some .int) := cx
  have l32_0 : (0 : Int32).toInt = 0 := rfl
  have l32_1 : (1 : Int32).toInt = 1 := rfl
  refine Ok.iconst cx d1_0 1 rfl (0 : Int32) rfl ?_
  refine Ok.istoreN cx d1_1 rfl One.u [.val (.ref a), .val (.int cnt), .val (.int (0 : Int32)), .unset] rfl 2 rfl ?_
  refine Ok.iconst cx d1_2 3 rfl (0 : Int32) rfl ?_
  refine Ok.istoreN cx d1_3 rfl One.u [.val (.ref a), .val (.int cnt), .val (.int (0 : Int32)), .val (.int (0 : Int32))] rfl 4 rfl ?_
  have J4 : ∀ (k i : Nat) (d2 i3 : Int32) (hh : Heap), i + k = C → i3.toInt = (i : Int) → d2.toInt = ((own_dd xs i).length : Int) → n0 ≤ hh.size → Keep h hh [a] → AI Z hh a .int ((own_dd xs i ++ xs.drop (own_dd xs i).length).map Value.int) → Ok W ({ frames := 0, cells := 0, slots := 0, locals := 0 } : Room) n0 (fun v' h' => n0 ≤ h'.size ∧ ∃ x : Int32, v' = some (.int x) ∧ x.toInt = ((own_dd xs C).length : Int) ∧ AI Z h' a .int ((own_dd xs C ++ xs.drop (own_dd xs C).length).map Value.int) ∧ Keep h h' [a]) hh 0 0 4 [.val (.ref a), .val (.int cnt), .val (.int d2), .val (.int i3)] [] := by
    intro k
    induction k with
    | zero =>
      intro i d2 i3 hh hk hi hd Z0 K_h A_a
      refine Ok.iloadN cx d1_4 rfl 5 rfl ?_
      refine Ok.iloadN cx d1_5 rfl 6 rfl ?_
      refine Ok.icmp_ge cx d1_6 39 9 (by decide) rfl (fun c6 => ?_) (fun c6 => by exfalso; omega)
      refine Ok.iloadN cx d1_39 rfl 40 rfl ?_
      exact Ok.ireturn cx d1_40 (by decide) (by decide) ⟨Z0, _, rfl, by rw [show C = i by omega]; exact hd, by rw [show C = i by omega]; exact A_a, K_h⟩
    | succ k ih =>
      intro i d2 i3 hh hk hi hd Z0 K_h A_a
      have hle := own_ddn (xs := xs) i (by omega)
      obtain ⟨x, hx⟩ : ∃ x, xs[i]? = some x := ⟨_, List.getElem?_eq_getElem (by omega)⟩
      have hrd : (own_dd xs i ++ xs.drop (own_dd xs i).length)[i]? = some x := by rw [own_rd hle]; exact hx
      refine Ok.iloadN cx d1_4 rfl 5 rfl ?_
      refine Ok.iloadN cx d1_5 rfl 6 rfl ?_
      refine Ok.icmp_ge cx d1_6 39 9 (by decide) rfl (fun c6 => by exfalso; omega) (fun c6 => ?_)
      refine Ok.iloadN cx d1_9 rfl 10 rfl ?_
      refine Ok.if_eq cx d1_10 24 13 (by decide) rfl (fun c10 => ?_) (fun c10 => ?_)
      · skip
        have hne : (own_dd xs i).getLast? ≠ some x := by
          have h0 : own_dd xs i = [] := List.length_eq_zero_iff.mp (by omega)
          rw [h0]; exact fun e => nomatch e
        have hap : own_dd xs (i + 1) = own_dd xs i ++ [x] := by rw [own_dds hx, if_neg hne]
        refine Ok.aloadN cx d1_24 rfl 25 rfl ?_
        refine Ok.iloadN cx d1_25 rfl 26 rfl ?_
        refine Ok.iinc cx d1_26 rfl (1 : Int32) rfl (fun y => [.val (.ref a), .val (.int cnt), .val (.int y), .val (.int i3)]) (fun _ => rfl) 29 rfl fun t26 e26 => ?_
        have s26 := own_add e26 (by omega) (by omega)
        refine Ok.aloadN cx d1_29 rfl 30 rfl ?_
        refine Ok.iloadN cx d1_30 rfl 31 rfl ?_
        refine Ok.iaload cx d1_31 A_a (i) hi (v := (.int x)) (own_mp hrd) 32 rfl ?_
        refine Ok.iastore cx d1_32 A_a ((own_dd xs i).length) hd (by simp; omega) (by first | assumption | omega) 33 rfl fun h32_ W32 G32 => ?_
        have Z0 := Nat.le_trans Z0 (Nat.le_of_eq W32.size.symm)
        have K_h := K_h.wr W32 (Or.inl (List.mem_of_getElem? (i := 0) rfl))
        have A_a := G32
        have A_a : AI Z h32_ a .int (((own_dd xs i ++ [x]) ++ xs.drop (own_dd xs i ++ [x]).length).map Value.int) := by rw [← own_wr (by omega)]; exact A_a
        refine Ok.iinc cx d1_33 rfl (1 : Int32) rfl (fun y => [.val (.ref a), .val (.int cnt), .val (.int t26), .val (.int y)]) (fun _ => rfl) 36 rfl fun t33 e33 => ?_
        have s33 := own_add e33 (by omega) (by omega)
        refine Ok.goto cx d1_36 4 (by decide) ?_
        exact ih (i + 1) t26 t33 h32_ (by omega) (by omega) (by rw [hap]; simp; omega) Z0 K_h (by rw [hap]; exact A_a)
      · skip
        obtain ⟨y, hy⟩ : ∃ y, (own_dd xs i).getLast? = some y := by
          cases hq : (own_dd xs i).getLast? with
          | none => rw [List.getLast?_eq_none_iff] at hq; rw [hq] at hd; simp at hd; omega
          | some y => exact ⟨y, rfl⟩
        obtain ⟨hl1, hly⟩ := own_last (xs := xs) hy
        refine Ok.aloadN cx d1_13 rfl 14 rfl ?_
        refine Ok.iloadN cx d1_14 rfl 15 rfl ?_
        refine Ok.iaload cx d1_15 A_a (i) hi (v := (.int x)) (own_mp hrd) 16 rfl ?_
        refine Ok.aloadN cx d1_16 rfl 17 rfl ?_
        refine Ok.iloadN cx d1_17 rfl 18 rfl ?_
        refine Ok.iconst cx d1_18 19 rfl (1 : Int32) rfl ?_
        refine Ok.isub cx d1_19 20 rfl fun t19 e19 => ?_
        have s19 := own_sub e19 (by omega) (by omega)
        refine Ok.iaload cx d1_20 A_a ((own_dd xs i).length - 1) (by omega) (v := (.int y)) (own_mp hly) 21 rfl ?_
        refine Ok.icmp_eq cx d1_21 33 24 (by decide) rfl (fun c21 => ?_) (fun c21 => ?_)
        · skip
          have hap : own_dd xs (i + 1) = own_dd xs i := by rw [own_dds hx, if_pos (by rw [hy, own_eq c21])]
          refine Ok.iinc cx d1_33 rfl (1 : Int32) rfl (fun y => [.val (.ref a), .val (.int cnt), .val (.int d2), .val (.int y)]) (fun _ => rfl) 36 rfl fun t33 e33 => ?_
          have s33 := own_add e33 (by omega) (by omega)
          refine Ok.goto cx d1_36 4 (by decide) ?_
          exact ih (i + 1) d2 t33 hh (by omega) (by omega) (by rw [hap]; exact hd) Z0 K_h (by rw [hap]; exact A_a)
        · skip
          have hne : (own_dd xs i).getLast? ≠ some x := by rw [hy]; exact fun e => c21 (by rw [Option.some.inj e])
          have hap : own_dd xs (i + 1) = own_dd xs i ++ [x] := by rw [own_dds hx, if_neg hne]
          refine Ok.aloadN cx d1_24 rfl 25 rfl ?_
          refine Ok.iloadN cx d1_25 rfl 26 rfl ?_
          refine Ok.iinc cx d1_26 rfl (1 : Int32) rfl (fun y => [.val (.ref a), .val (.int cnt), .val (.int y), .val (.int i3)]) (fun _ => rfl) 29 rfl fun t26 e26 => ?_
          have s26 := own_add e26 (by omega) (by omega)
          refine Ok.aloadN cx d1_29 rfl 30 rfl ?_
          refine Ok.iloadN cx d1_30 rfl 31 rfl ?_
          refine Ok.iaload cx d1_31 A_a (i) hi (v := (.int x)) (own_mp hrd) 32 rfl ?_
          refine Ok.iastore cx d1_32 A_a ((own_dd xs i).length) hd (by simp; omega) (by first | assumption | omega) 33 rfl fun h32_ W32 G32 => ?_
          have Z0 := Nat.le_trans Z0 (Nat.le_of_eq W32.size.symm)
          have K_h := K_h.wr W32 (Or.inl (List.mem_of_getElem? (i := 0) rfl))
          have A_a := G32
          have A_a : AI Z h32_ a .int (((own_dd xs i ++ [x]) ++ xs.drop (own_dd xs i ++ [x]).length).map Value.int) := by rw [← own_wr (by omega)]; exact A_a
          refine Ok.iinc cx d1_33 rfl (1 : Int32) rfl (fun y => [.val (.ref a), .val (.int cnt), .val (.int t26), .val (.int y)]) (fun _ => rfl) 36 rfl fun t33 e33 => ?_
          have s33 := own_add e33 (by omega) (by omega)
          refine Ok.goto cx d1_36 4 (by decide) ?_
          exact ih (i + 1) t26 t33 h32_ (by omega) (by omega) (by rw [hap]; simp; omega) Z0 K_h (by rw [hap]; exact A_a)
  exact J4 C 0 0 0 h (by omega) rfl rfl Z0 (Keep.refl _ _) A_a
theorem d2_0 : decode method_2_code 0 = .ok (.iload_n 2, 1) := by decide +kernel
theorem d2_1 : decode method_2_code 1 = .ok (.iload_n 3, 1) := by decide +kernel
theorem d2_2 : decode method_2_code 2 = .ok (.if_icmp .ge 12, 3) := by decide +kernel
theorem d2_5 : decode method_2_code 5 = .ok (.aload_n 0, 1) := by decide +kernel
theorem d2_6 : decode method_2_code 6 = .ok (.iload_n 2, 1) := by decide +kernel
theorem d2_7 : decode method_2_code 7 = .ok (.iaload, 1) := by decide +kernel
theorem d2_8 : decode method_2_code 8 = .ok (.aload_n 1, 1) := by decide +kernel
theorem d2_9 : decode method_2_code 9 = .ok (.iload_n 2, 1) := by decide +kernel
theorem d2_10 : decode method_2_code 10 = .ok (.iaload, 1) := by decide +kernel
theorem d2_11 : decode method_2_code 11 = .ok (.if_icmp .ne 7, 3) := by decide +kernel
theorem d2_14 : decode method_2_code 14 = .ok (.iconst 1, 1) := by decide +kernel
theorem d2_15 : decode method_2_code 15 = .ok (.goto 4, 3) := by decide +kernel
theorem d2_18 : decode method_2_code 18 = .ok (.iconst 0, 1) := by decide +kernel
theorem d2_19 : decode method_2_code 19 = .ok (.ireturn, 1) := by decide +kernel
theorem pn_2 : plainFor (⟨"com/example/twigwright/twigwright/NodeSetWithoutRepeatsPinLaw", "same", "([I[III)Z"⟩ : MethodName) = true := by first | exact plainFor_of_name (by first | (simp [plainName, overriddenIn]; done) | decide +kernel) | decide +kernel
set_option maxRecDepth 65536 in
set_option maxHeartbeats 40000000 in
theorem rm_2 (l : Launch) (Z : State) (a0 : Array Value) (hw : ∀ d ∈ tables_1, d.before a0 Z = true) (a e : Addr) (j k u u' : Int32) (va ve : List Value) (J : Nat) (h : Heap) (n0 : Nat) (Z0 : n0 ≤ h.size) (A_a : AI Z h a .int va) (A_e : AI Z h e .int ve) (hj : j.toInt = (J : Int)) (hu : va[J]? = some (.int u)) (hu' : ve[J]? = some (.int u')) :
    Does l Z (⟨"com/example/twigwright/twigwright/NodeSetWithoutRepeatsPinLaw", "same", "([I[III)Z"⟩ : MethodName) method_2_code 4 (some .boolean) ({ frames := 0, cells := 0, slots := 0, locals := 0 } : Room) #[(.ref a), (.ref e), (.int j), (.int k)] h n0 (fun v' h' => h = h' ∧ ∃ x : Int32, v' = some (.int x) ∧ (x.toInt = 1 ∧ (k.toInt ≤ j.toInt ∨ u.toInt = u'.toInt) ∨ x.toInt = 0 ∧ ¬ (k.toInt ≤ j.toInt ∨ u.toInt = u'.toInt))) := by
  refine Does.of_body pn_2 [.val (.ref a), .val (.ref e), .val (.int j), .val (.int k)] (fun m => by first | (simp [entryFrame, mkF, argsToLocals, Value.category]; done) | rfl) ?_
  intro W hWl cx
  subst hWl
  have cx : Cx W Z "com/example/twigwright/twigwright/NodeSetWithoutRepeatsPinLaw" "same" method_2_code 4 (some .boolean) := cx
  have lz1 : ((1 : Int32) &&& 1).toInt = 1 := rfl
  have lz0 : ((0 : Int32) &&& 1).toInt = 0 := rfl
  have l32_1 : (1 : Int32).toInt = 1 := rfl
  have l32_0 : (0 : Int32).toInt = 0 := rfl
  refine Ok.iloadN cx d2_0 rfl 1 rfl ?_
  refine Ok.iloadN cx d2_1 rfl 2 rfl ?_
  refine Ok.icmp_ge cx d2_2 14 5 (by decide) rfl (fun c2 => ?_) (fun c2 => ?_)
  · skip
    refine Ok.iconst cx d2_14 15 rfl (1 : Int32) rfl ?_
    refine Ok.goto cx d2_15 19 (by decide) ?_
    exact Ok.zreturn cx d2_19 (by decide) (by decide) ⟨rfl, _, rfl, by omega⟩
  · skip
    refine Ok.aloadN cx d2_5 rfl 6 rfl ?_
    refine Ok.iloadN cx d2_6 rfl 7 rfl ?_
    refine Ok.iaload cx d2_7 A_a (J) hj (v := (.int u)) hu 8 rfl ?_
    refine Ok.aloadN cx d2_8 rfl 9 rfl ?_
    refine Ok.iloadN cx d2_9 rfl 10 rfl ?_
    refine Ok.iaload cx d2_10 A_e (J) hj (v := (.int u')) hu' 11 rfl ?_
    refine Ok.icmp_ne cx d2_11 18 14 (by decide) rfl (fun c11 => ?_) (fun c11 => ?_)
    · skip
      refine Ok.iconst cx d2_18 19 rfl (0 : Int32) rfl ?_
      exact Ok.zreturn cx d2_19 (by decide) (by decide) ⟨rfl, _, rfl, by omega⟩
    · skip
      refine Ok.iconst cx d2_14 15 rfl (1 : Int32) rfl ?_
      refine Ok.goto cx d2_15 19 (by decide) ?_
      exact Ok.zreturn cx d2_19 (by decide) (by decide) ⟨rfl, _, rfl, by omega⟩
theorem d3_0 : decode method_3_code 0 = .ok (.iload_n 2, 1) := by decide +kernel
theorem d3_1 : decode method_3_code 1 = .ok (.iload_n 3, 1) := by decide +kernel
theorem d3_2 : decode method_3_code 2 = .ok (.if_icmp .lt 12, 3) := by decide +kernel
theorem d3_5 : decode method_3_code 5 = .ok (.aload_n 0, 1) := by decide +kernel
theorem d3_6 : decode method_3_code 6 = .ok (.iload_n 2, 1) := by decide +kernel
theorem d3_7 : decode method_3_code 7 = .ok (.iaload, 1) := by decide +kernel
theorem d3_8 : decode method_3_code 8 = .ok (.aload_n 1, 1) := by decide +kernel
theorem d3_9 : decode method_3_code 9 = .ok (.iload_n 2, 1) := by decide +kernel
theorem d3_10 : decode method_3_code 10 = .ok (.iaload, 1) := by decide +kernel
theorem d3_11 : decode method_3_code 11 = .ok (.if_icmp .ne 7, 3) := by decide +kernel
theorem d3_14 : decode method_3_code 14 = .ok (.iconst 1, 1) := by decide +kernel
theorem d3_15 : decode method_3_code 15 = .ok (.goto 4, 3) := by decide +kernel
theorem d3_18 : decode method_3_code 18 = .ok (.iconst 0, 1) := by decide +kernel
theorem d3_19 : decode method_3_code 19 = .ok (.ireturn, 1) := by decide +kernel
theorem pn_3 : plainFor (⟨"com/example/twigwright/twigwright/NodeSetWithoutRepeatsPinLaw", "untouched", "([I[III)Z"⟩ : MethodName) = true := by first | exact plainFor_of_name (by first | (simp [plainName, overriddenIn]; done) | decide +kernel) | decide +kernel
set_option maxRecDepth 65536 in
set_option maxHeartbeats 40000000 in
theorem rm_3 (l : Launch) (Z : State) (a0 : Array Value) (hw : ∀ d ∈ tables_1, d.before a0 Z = true) (a e : Addr) (j k u u' : Int32) (va ve : List Value) (J : Nat) (h : Heap) (n0 : Nat) (Z0 : n0 ≤ h.size) (A_a : AI Z h a .int va) (A_e : AI Z h e .int ve) (hj : j.toInt = (J : Int)) (hu : va[J]? = some (.int u)) (hu' : ve[J]? = some (.int u')) :
    Does l Z (⟨"com/example/twigwright/twigwright/NodeSetWithoutRepeatsPinLaw", "untouched", "([I[III)Z"⟩ : MethodName) method_3_code 4 (some .boolean) ({ frames := 0, cells := 0, slots := 0, locals := 0 } : Room) #[(.ref a), (.ref e), (.int j), (.int k)] h n0 (fun v' h' => h = h' ∧ ∃ x : Int32, v' = some (.int x) ∧ (x.toInt = 1 ∧ (j.toInt < k.toInt ∨ u.toInt = u'.toInt) ∨ x.toInt = 0 ∧ ¬ (j.toInt < k.toInt ∨ u.toInt = u'.toInt))) := by
  refine Does.of_body pn_3 [.val (.ref a), .val (.ref e), .val (.int j), .val (.int k)] (fun m => by first | (simp [entryFrame, mkF, argsToLocals, Value.category]; done) | rfl) ?_
  intro W hWl cx
  subst hWl
  have cx : Cx W Z "com/example/twigwright/twigwright/NodeSetWithoutRepeatsPinLaw" "untouched" method_3_code 4 (some .boolean) := cx
  have lz1 : ((1 : Int32) &&& 1).toInt = 1 := rfl
  have lz0 : ((0 : Int32) &&& 1).toInt = 0 := rfl
  have l32_1 : (1 : Int32).toInt = 1 := rfl
  have l32_0 : (0 : Int32).toInt = 0 := rfl
  refine Ok.iloadN cx d3_0 rfl 1 rfl ?_
  refine Ok.iloadN cx d3_1 rfl 2 rfl ?_
  refine Ok.icmp_lt cx d3_2 14 5 (by decide) rfl (fun c2 => ?_) (fun c2 => ?_)
  · skip
    refine Ok.iconst cx d3_14 15 rfl (1 : Int32) rfl ?_
    refine Ok.goto cx d3_15 19 (by decide) ?_
    exact Ok.zreturn cx d3_19 (by decide) (by decide) ⟨rfl, _, rfl, by omega⟩
  · skip
    refine Ok.aloadN cx d3_5 rfl 6 rfl ?_
    refine Ok.iloadN cx d3_6 rfl 7 rfl ?_
    refine Ok.iaload cx d3_7 A_a (J) hj (v := (.int u)) hu 8 rfl ?_
    refine Ok.aloadN cx d3_8 rfl 9 rfl ?_
    refine Ok.iloadN cx d3_9 rfl 10 rfl ?_
    refine Ok.iaload cx d3_10 A_e (J) hj (v := (.int u')) hu' 11 rfl ?_
    refine Ok.icmp_ne cx d3_11 18 14 (by decide) rfl (fun c11 => ?_) (fun c11 => ?_)
    · skip
      refine Ok.iconst cx d3_18 19 rfl (0 : Int32) rfl ?_
      exact Ok.zreturn cx d3_19 (by decide) (by decide) ⟨rfl, _, rfl, by omega⟩
    · skip
      refine Ok.iconst cx d3_14 15 rfl (1 : Int32) rfl ?_
      refine Ok.goto cx d3_15 19 (by decide) ?_
      exact Ok.zreturn cx d3_19 (by decide) (by decide) ⟨rfl, _, rfl, by omega⟩
theorem pn_0 : plainFor x = true := by first | exact plainFor_of_name (by first | (simp [plainName, overriddenIn]; done) | decide +kernel) | decide +kernel
theorem pd_0 : parseMethodDescriptor "([II)I" = some ⟨[(.array .int), .int], some .int⟩ := by decide +kernel
theorem pd_1 : parseMethodDescriptor "([I[III)Z" = some ⟨[(.array .int), (.array .int), .int, .int], some .boolean⟩ := by decide +kernel
set_option maxRecDepth 65536 in
set_option maxHeartbeats 40000000 in
theorem rm_0 (l : Launch) (Z : State) (a0 : Array Value) (hw : ∀ d ∈ tables_1, d.before a0 Z = true) (p0 p1 p2 p3 p4 p5 : Int32) (h : Heap) (n0 : Nat) (Z0 : n0 ≤ h.size)  :
    DoesW l Z x code maxLocals ret room_1 tables_1 #[(.int p0), (.int p1), (.int p2), (.int p3), (.int p4), (.int p5)] h n0 (fun v _ => v = some (.int 1)) := by
  refine DoesW.of_body pn_0 [.val (.int p0), .val (.int p1), .val (.int p2), .val (.int p3), .val (.int p4), .val (.int p5), .unset, .unset, .unset, .unset, .unset, .unset, .unset, .unset, .unset, .unset, .unset] (fun m => by first | (simp [entryFrame, mkF, argsToLocals, Value.category, maxLocals]; done) | rfl) ?_
  intro W hWl cx
  subst hWl
  have cx : Cx W Z "com/example/twigwright/twigwright/NodeSetWithoutRepeatsPinLaw" "law" code 17 (some .boolean) := cx
  have lz1 : ((1 : Int32) &&& 1).toInt = 1 := rfl
  have lz0 : ((0 : Int32) &&& 1).toInt = 0 := rfl
  have l32_5 : (5 : Int32).toInt = 5 := rfl
  have l32_7 : (7 : Int32).toInt = 7 := rfl
  have l32_6 : (6 : Int32).toInt = 6 := rfl
  have l32_0 : (0 : Int32).toInt = 0 := rfl
  have l32_1 : (1 : Int32).toInt = 1 := rfl
  have l32_2 : (2 : Int32).toInt = 2 := rfl
  have l32_3 : (3 : Int32).toInt = 3 := rfl
  have l32_4 : (4 : Int32).toInt = 4 := rfl
  refine Ok.iload cx at_0 rfl 2 rfl ?_
  refine Ok.iconst cx at_2 3 rfl (5 : Int32) rfl ?_
  refine Ok.iushr cx at_3 4 rfl fun t3 e3 => ?_
  refine Ok.bipush cx at_4 6 rfl (7 : Int32) rfl ?_
  refine Ok.iand cx at_6 7 rfl fun t6 e6 => ?_
  refine Ok.bipush cx at_7 9 rfl (6 : Int32) rfl ?_
  refine Ok.irem cx at_9 (by decide) 10 rfl fun t9 e9 => ?_
  have m6 := c_mask t3 7 3 (by decide) (by decide); rw [← e6] at m6
  have m9 := c_irem t6 6 6 rfl; rw [← e9] at m9
  obtain ⟨C, hC, hC5⟩ : ∃ C : Nat, t9.toInt = (C : Int) ∧ C ≤ 5 := ⟨t9.toInt.toNat, by omega, by omega⟩
  clear m6 m9
  refine Ok.istore cx at_10 rfl One.u [.val (.int p0), .val (.int p1), .val (.int p2), .val (.int p3), .val (.int p4), .val (.int p5), .val (.int t9), .unset, .unset, .unset, .unset, .unset, .unset, .unset, .unset, .unset, .unset] rfl 12 rfl ?_
  refine Ok.iconst cx at_12 13 rfl (5 : Int32) rfl ?_
  refine Ok.newarray cx (own_w hw 0 rfl) at_13 rfl (5) rfl (by omega) 5 (by omega) (by omega) (by decide) (by decide) 15 rfl fun h13_ o g13 E13 V13 => ?_
  have zo : n0 ≤ o := by rw [g13]; exact Z0
  have Z0 := Nat.le_trans Z0 E13.1
  have V13 : AI Z h13_ o .int [(.int 0), (.int 0), (.int 0), (.int 0), (.int 0)] := V13
  refine Ok.astore cx at_15 rfl One.u [.val (.int p0), .val (.int p1), .val (.int p2), .val (.int p3), .val (.int p4), .val (.int p5), .val (.int t9), .val (.ref o), .unset, .unset, .unset, .unset, .unset, .unset, .unset, .unset, .unset] rfl 17 rfl ?_
  refine Ok.aload cx at_17 rfl 19 rfl ?_
  refine Ok.iconst cx at_19 20 rfl (0 : Int32) rfl ?_
  refine Ok.iloadN cx at_20 rfl 21 rfl ?_
  refine Ok.iastore cx at_21 V13 (0) rfl (by simp) (by first | assumption | omega) 22 rfl fun h21_ W21 G21 => ?_
  have Z0 := Nat.le_trans Z0 (Nat.le_of_eq W21.size.symm)
  have V13 := G21
  have V13 : AI Z h21_ o .int [(.int p0), (.int 0), (.int 0), (.int 0), (.int 0)] := V13
  refine Ok.aload cx at_22 rfl 24 rfl ?_
  refine Ok.iconst cx at_24 25 rfl (1 : Int32) rfl ?_
  refine Ok.iload cx at_25 rfl 27 rfl ?_
  refine Ok.iconst cx at_27 28 rfl (1 : Int32) rfl ?_
  refine Ok.iushr cx at_28 29 rfl fun t28 e28 => ?_
  refine Ok.iconst cx at_29 30 rfl (1 : Int32) rfl ?_
  refine Ok.iand cx at_30 31 rfl fun t30 e30 => ?_
  have J42 : ∀ x1 : Int32, Ok W room_1 n0 (fun v _ => v = some (.int 1)) h21_ 1 5 42 [.val (.int p0), .val (.int p1), .val (.int p2), .val (.int p3), .val (.int p4), .val (.int p5), .val (.int t9), .val (.ref o), .unset, .unset, .unset, .unset, .unset, .unset, .unset, .unset, .unset] [(.int x1), (.int (1 : Int32)), (.ref o)] := by
    intro x1
    refine Ok.iastore cx at_42 V13 (1) rfl (by simp) (by first | assumption | omega) 43 rfl fun h42_ W42 G42 => ?_
    have Z0 := Nat.le_trans Z0 (Nat.le_of_eq W42.size.symm)
    have V13 := G42
    have V13 : AI Z h42_ o .int [(.int p0), (.int x1), (.int 0), (.int 0), (.int 0)] := V13
    refine Ok.aload cx at_43 rfl 45 rfl ?_
    refine Ok.iconst cx at_45 46 rfl (2 : Int32) rfl ?_
    refine Ok.iload cx at_46 rfl 48 rfl ?_
    refine Ok.iconst cx at_48 49 rfl (2 : Int32) rfl ?_
    refine Ok.iushr cx at_49 50 rfl fun t49 e49 => ?_
    refine Ok.iconst cx at_50 51 rfl (1 : Int32) rfl ?_
    refine Ok.iand cx at_51 52 rfl fun t51 e51 => ?_
    have J63 : ∀ x2 : Int32, Ok W room_1 n0 (fun v _ => v = some (.int 1)) h42_ 1 5 63 [.val (.int p0), .val (.int p1), .val (.int p2), .val (.int p3), .val (.int p4), .val (.int p5), .val (.int t9), .val (.ref o), .unset, .unset, .unset, .unset, .unset, .unset, .unset, .unset, .unset] [(.int x2), (.int (2 : Int32)), (.ref o)] := by
      intro x2
      refine Ok.iastore cx at_63 V13 (2) rfl (by simp) (by first | assumption | omega) 64 rfl fun h63_ W63 G63 => ?_
      have Z0 := Nat.le_trans Z0 (Nat.le_of_eq W63.size.symm)
      have V13 := G63
      have V13 : AI Z h63_ o .int [(.int p0), (.int x1), (.int x2), (.int 0), (.int 0)] := V13
      refine Ok.aload cx at_64 rfl 66 rfl ?_
      refine Ok.iconst cx at_66 67 rfl (3 : Int32) rfl ?_
      refine Ok.iload cx at_67 rfl 69 rfl ?_
      refine Ok.iconst cx at_69 70 rfl (3 : Int32) rfl ?_
      refine Ok.iushr cx at_70 71 rfl fun t70 e70 => ?_
      refine Ok.iconst cx at_71 72 rfl (1 : Int32) rfl ?_
      refine Ok.iand cx at_72 73 rfl fun t72 e72 => ?_
      have J84 : ∀ x3 : Int32, Ok W room_1 n0 (fun v _ => v = some (.int 1)) h63_ 1 5 84 [.val (.int p0), .val (.int p1), .val (.int p2), .val (.int p3), .val (.int p4), .val (.int p5), .val (.int t9), .val (.ref o), .unset, .unset, .unset, .unset, .unset, .unset, .unset, .unset, .unset] [(.int x3), (.int (3 : Int32)), (.ref o)] := by
        intro x3
        refine Ok.iastore cx at_84 V13 (3) rfl (by simp) (by first | assumption | omega) 85 rfl fun h84_ W84 G84 => ?_
        have Z0 := Nat.le_trans Z0 (Nat.le_of_eq W84.size.symm)
        have V13 := G84
        have V13 : AI Z h84_ o .int [(.int p0), (.int x1), (.int x2), (.int x3), (.int 0)] := V13
        refine Ok.aload cx at_85 rfl 87 rfl ?_
        refine Ok.iconst cx at_87 88 rfl (4 : Int32) rfl ?_
        refine Ok.iload cx at_88 rfl 90 rfl ?_
        refine Ok.iconst cx at_90 91 rfl (4 : Int32) rfl ?_
        refine Ok.iushr cx at_91 92 rfl fun t91 e91 => ?_
        refine Ok.iconst cx at_92 93 rfl (1 : Int32) rfl ?_
        refine Ok.iand cx at_93 94 rfl fun t93 e93 => ?_
        have J106 : ∀ x4 : Int32, Ok W room_1 n0 (fun v _ => v = some (.int 1)) h84_ 1 5 106 [.val (.int p0), .val (.int p1), .val (.int p2), .val (.int p3), .val (.int p4), .val (.int p5), .val (.int t9), .val (.ref o), .unset, .unset, .unset, .unset, .unset, .unset, .unset, .unset, .unset] [(.int x4), (.int (4 : Int32)), (.ref o)] := by
          intro x4
          refine Ok.iastore cx at_106 V13 (4) rfl (by simp) (by first | assumption | omega) 107 rfl fun h106_ W106 G106 => ?_
          have Z0 := Nat.le_trans Z0 (Nat.le_of_eq W106.size.symm)
          have V13 := G106
          have V13 : AI Z h106_ o .int [(.int p0), (.int x1), (.int x2), (.int x3), (.int x4)] := V13
          refine Ok.iconst cx at_107 108 rfl (5 : Int32) rfl ?_
          refine Ok.newarray cx (own_w hw 0 rfl) at_108 rfl (5) rfl (by omega) 5 (by omega) (by omega) (by decide) (by decide) 110 rfl fun h108_ a g108 E108 V108 => ?_
          have za : n0 ≤ a := by rw [g108]; exact Z0
          have ne_o_a : o ≠ a := by rw [g108]; exact Nat.ne_of_lt V13.lt
          have Z0 := Nat.le_trans Z0 E108.1
          have V13 := V13.ext E108
          have V108 : AI Z h108_ a .int [(.int 0), (.int 0), (.int 0), (.int 0), (.int 0)] := V108
          refine Ok.dup cx at_110 rfl 111 rfl ?_
          refine Ok.iconst cx at_111 112 rfl (0 : Int32) rfl ?_
          refine Ok.aload cx at_112 rfl 114 rfl ?_
          refine Ok.iconst cx at_114 115 rfl (0 : Int32) rfl ?_
          refine Ok.iaload cx at_115 V13 (0) rfl (v := (.int p0)) rfl 116 rfl ?_
          refine Ok.iastore cx at_116 V108 (0) rfl (by simp) (by first | assumption | omega) 117 rfl fun h116_ W116 G116 => ?_
          have Z0 := Nat.le_trans Z0 (Nat.le_of_eq W116.size.symm)
          have V13 := V13.other W116 (by first | assumption | (apply Ne.symm; assumption))
          have V108 := G116
          have V108 : AI Z h116_ a .int [(.int p0), (.int 0), (.int 0), (.int 0), (.int 0)] := V108
          refine Ok.dup cx at_117 rfl 118 rfl ?_
          refine Ok.iconst cx at_118 119 rfl (1 : Int32) rfl ?_
          refine Ok.aload cx at_119 rfl 121 rfl ?_
          refine Ok.iconst cx at_121 122 rfl (1 : Int32) rfl ?_
          refine Ok.iaload cx at_122 V13 (1) rfl (v := (.int x1)) rfl 123 rfl ?_
          refine Ok.iastore cx at_123 V108 (1) rfl (by simp) (by first | assumption | omega) 124 rfl fun h123_ W123 G123 => ?_
          have Z0 := Nat.le_trans Z0 (Nat.le_of_eq W123.size.symm)
          have V13 := V13.other W123 (by first | assumption | (apply Ne.symm; assumption))
          have V108 := G123
          have V108 : AI Z h123_ a .int [(.int p0), (.int x1), (.int 0), (.int 0), (.int 0)] := V108
          refine Ok.dup cx at_124 rfl 125 rfl ?_
          refine Ok.iconst cx at_125 126 rfl (2 : Int32) rfl ?_
          refine Ok.aload cx at_126 rfl 128 rfl ?_
          refine Ok.iconst cx at_128 129 rfl (2 : Int32) rfl ?_
          refine Ok.iaload cx at_129 V13 (2) rfl (v := (.int x2)) rfl 130 rfl ?_
          refine Ok.iastore cx at_130 V108 (2) rfl (by simp) (by first | assumption | omega) 131 rfl fun h130_ W130 G130 => ?_
          have Z0 := Nat.le_trans Z0 (Nat.le_of_eq W130.size.symm)
          have V13 := V13.other W130 (by first | assumption | (apply Ne.symm; assumption))
          have V108 := G130
          have V108 : AI Z h130_ a .int [(.int p0), (.int x1), (.int x2), (.int 0), (.int 0)] := V108
          refine Ok.dup cx at_131 rfl 132 rfl ?_
          refine Ok.iconst cx at_132 133 rfl (3 : Int32) rfl ?_
          refine Ok.aload cx at_133 rfl 135 rfl ?_
          refine Ok.iconst cx at_135 136 rfl (3 : Int32) rfl ?_
          refine Ok.iaload cx at_136 V13 (3) rfl (v := (.int x3)) rfl 137 rfl ?_
          refine Ok.iastore cx at_137 V108 (3) rfl (by simp) (by first | assumption | omega) 138 rfl fun h137_ W137 G137 => ?_
          have Z0 := Nat.le_trans Z0 (Nat.le_of_eq W137.size.symm)
          have V13 := V13.other W137 (by first | assumption | (apply Ne.symm; assumption))
          have V108 := G137
          have V108 : AI Z h137_ a .int [(.int p0), (.int x1), (.int x2), (.int x3), (.int 0)] := V108
          refine Ok.dup cx at_138 rfl 139 rfl ?_
          refine Ok.iconst cx at_139 140 rfl (4 : Int32) rfl ?_
          refine Ok.aload cx at_140 rfl 142 rfl ?_
          refine Ok.iconst cx at_142 143 rfl (4 : Int32) rfl ?_
          refine Ok.iaload cx at_143 V13 (4) rfl (v := (.int x4)) rfl 144 rfl ?_
          refine Ok.iastore cx at_144 V108 (4) rfl (by simp) (by first | assumption | omega) 145 rfl fun h144_ W144 G144 => ?_
          have Z0 := Nat.le_trans Z0 (Nat.le_of_eq W144.size.symm)
          have V13 := V13.other W144 (by first | assumption | (apply Ne.symm; assumption))
          have V108 := G144
          have V108 : AI Z h144_ a .int [(.int p0), (.int x1), (.int x2), (.int x3), (.int x4)] := V108
          refine Ok.astore cx at_145 rfl One.u [.val (.int p0), .val (.int p1), .val (.int p2), .val (.int p3), .val (.int p4), .val (.int p5), .val (.int t9), .val (.ref o), .val (.ref a), .unset, .unset, .unset, .unset, .unset, .unset, .unset, .unset] rfl 147 rfl ?_
          refine Ok.iconst cx at_147 148 rfl (0 : Int32) rfl ?_
          refine Ok.iload cx at_148 rfl 150 rfl ?_
          have J158 : ∀ b0 : Int32, (b0.toInt = 1 ∧ (0 < C) ∨ b0.toInt = 0 ∧ ¬ (0 < C)) → Ok W room_1 n0 (fun v _ => v = some (.int 1)) h144_ 2 10 158 [.val (.int p0), .val (.int p1), .val (.int p2), .val (.int p3), .val (.int p4), .val (.int p5), .val (.int t9), .val (.ref o), .val (.ref a), .unset, .unset, .unset, .unset, .unset, .unset, .unset, .unset] [(.int b0)] := by
            intro b0 hb0
            refine Ok.istore cx at_158 rfl One.u [.val (.int p0), .val (.int p1), .val (.int p2), .val (.int p3), .val (.int p4), .val (.int p5), .val (.int t9), .val (.ref o), .val (.ref a), .val (.int b0), .unset, .unset, .unset, .unset, .unset, .unset, .unset] rfl 160 rfl ?_
            refine Ok.iconst cx at_160 161 rfl (1 : Int32) rfl ?_
            refine Ok.iload cx at_161 rfl 163 rfl ?_
            have J182 : ∀ b1 : Int32, (b1.toInt = 1 ∧ (1 < C ∧ x1.toInt ≠ p0.toInt) ∨ b1.toInt = 0 ∧ ¬ (1 < C ∧ x1.toInt ≠ p0.toInt)) → Ok W room_1 n0 (fun v _ => v = some (.int 1)) h144_ 2 10 182 [.val (.int p0), .val (.int p1), .val (.int p2), .val (.int p3), .val (.int p4), .val (.int p5), .val (.int t9), .val (.ref o), .val (.ref a), .val (.int b0), .unset, .unset, .unset, .unset, .unset, .unset, .unset] [(.int b1)] := by
              intro b1 hb1
              refine Ok.istore cx at_182 rfl One.u [.val (.int p0), .val (.int p1), .val (.int p2), .val (.int p3), .val (.int p4), .val (.int p5), .val (.int t9), .val (.ref o), .val (.ref a), .val (.int b0), .val (.int b1), .unset, .unset, .unset, .unset, .unset, .unset] rfl 184 rfl ?_
              refine Ok.iconst cx at_184 185 rfl (2 : Int32) rfl ?_
              refine Ok.iload cx at_185 rfl 187 rfl ?_
              have J206 : ∀ b2 : Int32, (b2.toInt = 1 ∧ (2 < C ∧ x2.toInt ≠ x1.toInt) ∨ b2.toInt = 0 ∧ ¬ (2 < C ∧ x2.toInt ≠ x1.toInt)) → Ok W room_1 n0 (fun v _ => v = some (.int 1)) h144_ 2 10 206 [.val (.int p0), .val (.int p1), .val (.int p2), .val (.int p3), .val (.int p4), .val (.int p5), .val (.int t9), .val (.ref o), .val (.ref a), .val (.int b0), .val (.int b1), .unset, .unset, .unset, .unset, .unset, .unset] [(.int b2)] := by
                intro b2 hb2
                refine Ok.istore cx at_206 rfl One.u [.val (.int p0), .val (.int p1), .val (.int p2), .val (.int p3), .val (.int p4), .val (.int p5), .val (.int t9), .val (.ref o), .val (.ref a), .val (.int b0), .val (.int b1), .val (.int b2), .unset, .unset, .unset, .unset, .unset] rfl 208 rfl ?_
                refine Ok.iconst cx at_208 209 rfl (3 : Int32) rfl ?_
                refine Ok.iload cx at_209 rfl 211 rfl ?_
                have J230 : ∀ b3 : Int32, (b3.toInt = 1 ∧ (3 < C ∧ x3.toInt ≠ x2.toInt) ∨ b3.toInt = 0 ∧ ¬ (3 < C ∧ x3.toInt ≠ x2.toInt)) → Ok W room_1 n0 (fun v _ => v = some (.int 1)) h144_ 2 10 230 [.val (.int p0), .val (.int p1), .val (.int p2), .val (.int p3), .val (.int p4), .val (.int p5), .val (.int t9), .val (.ref o), .val (.ref a), .val (.int b0), .val (.int b1), .val (.int b2), .unset, .unset, .unset, .unset, .unset] [(.int b3)] := by
                  intro b3 hb3
                  refine Ok.istore cx at_230 rfl One.u [.val (.int p0), .val (.int p1), .val (.int p2), .val (.int p3), .val (.int p4), .val (.int p5), .val (.int t9), .val (.ref o), .val (.ref a), .val (.int b0), .val (.int b1), .val (.int b2), .val (.int b3), .unset, .unset, .unset, .unset] rfl 232 rfl ?_
                  refine Ok.iconst cx at_232 233 rfl (4 : Int32) rfl ?_
                  refine Ok.iload cx at_233 rfl 235 rfl ?_
                  have J254 : ∀ b4 : Int32, (b4.toInt = 1 ∧ (4 < C ∧ x4.toInt ≠ x3.toInt) ∨ b4.toInt = 0 ∧ ¬ (4 < C ∧ x4.toInt ≠ x3.toInt)) → Ok W room_1 n0 (fun v _ => v = some (.int 1)) h144_ 2 10 254 [.val (.int p0), .val (.int p1), .val (.int p2), .val (.int p3), .val (.int p4), .val (.int p5), .val (.int t9), .val (.ref o), .val (.ref a), .val (.int b0), .val (.int b1), .val (.int b2), .val (.int b3), .unset, .unset, .unset, .unset] [(.int b4)] := by
                    intro b4 hb4
                    refine Ok.istore cx at_254 rfl One.u [.val (.int p0), .val (.int p1), .val (.int p2), .val (.int p3), .val (.int p4), .val (.int p5), .val (.int t9), .val (.ref o), .val (.ref a), .val (.int b0), .val (.int b1), .val (.int b2), .val (.int b3), .val (.int b4), .unset, .unset, .unset] rfl 256 rfl ?_
                    refine Ok.iconst cx at_256 257 rfl (5 : Int32) rfl ?_
                    refine Ok.newarray cx (own_w hw 0 rfl) at_257 rfl (5) rfl (by omega) 5 (by omega) (by omega) (by decide) (by decide) 259 rfl fun h257_ e g257 E257 V257 => ?_
                    have ze : n0 ≤ e := by rw [g257]; exact Z0
                    have ne_o_e : o ≠ e := by rw [g257]; exact Nat.ne_of_lt V13.lt
                    have ne_a_e : a ≠ e := by rw [g257]; exact Nat.ne_of_lt V108.lt
                    have Z0 := Nat.le_trans Z0 E257.1
                    have V13 := V13.ext E257
                    have V108 := V108.ext E257
                    have hx5 : ([p0, x1, x2, x3, x4] : List Int32).length = 5 := rfl
                    have V257 : AI Z h257_ e .int ((own_dd [p0, x1, x2, x3, x4] (min 0 C) ++ List.replicate (5 - (own_dd [p0, x1, x2, x3, x4] (min 0 C)).length) 0).map Value.int) := by rw [Nat.zero_min]; exact V257
                    have hkk : (0 : Int32).toInt = ((own_dd [p0, x1, x2, x3, x4] (min 0 C)).length : Int) := by rw [Nat.zero_min]; rfl
                    refine Ok.astore cx at_259 rfl One.u [.val (.int p0), .val (.int p1), .val (.int p2), .val (.int p3), .val (.int p4), .val (.int p5), .val (.int t9), .val (.ref o), .val (.ref a), .val (.int b0), .val (.int b1), .val (.int b2), .val (.int b3), .val (.int b4), .val (.ref e), .unset, .unset] rfl 261 rfl ?_
                    refine Ok.iconst cx at_261 262 rfl (0 : Int32) rfl ?_
                    refine Ok.istore cx at_262 rfl One.u [.val (.int p0), .val (.int p1), .val (.int p2), .val (.int p3), .val (.int p4), .val (.int p5), .val (.int t9), .val (.ref o), .val (.ref a), .val (.int b0), .val (.int b1), .val (.int b2), .val (.int b3), .val (.int b4), .val (.ref e), .val (.int (0 : Int32)), .unset] rfl 264 rfl ?_
                    refine Ok.iload cx at_264 rfl 266 rfl ?_
                    have J281 : ∀ (kk : Int32) (hh : Heap), n0 ≤ hh.size → kk.toInt = ((own_dd [p0, x1, x2, x3, x4] (min 1 C)).length : Int) → AI Z hh o .int [(.int p0), (.int x1), (.int x2), (.int x3), (.int x4)] → AI Z hh a .int [(.int p0), (.int x1), (.int x2), (.int x3), (.int x4)] → AI Z hh e .int ((own_dd [p0, x1, x2, x3, x4] (min 1 C) ++ List.replicate (5 - (own_dd [p0, x1, x2, x3, x4] (min 1 C)).length) 0).map Value.int) → Ok W room_1 n0 (fun v _ => v = some (.int 1)) hh 3 15 281 [.val (.int p0), .val (.int p1), .val (.int p2), .val (.int p3), .val (.int p4), .val (.int p5), .val (.int t9), .val (.ref o), .val (.ref a), .val (.int b0), .val (.int b1), .val (.int b2), .val (.int b3), .val (.int b4), .val (.ref e), .val (.int kk), .unset] [] := by
                      intro kk hh Z0 hkk V13 V108 V257
                      refine Ok.iload cx at_281 rfl 283 rfl ?_
                      have J298 : ∀ (kk : Int32) (hh : Heap), n0 ≤ hh.size → kk.toInt = ((own_dd [p0, x1, x2, x3, x4] (min 2 C)).length : Int) → AI Z hh o .int [(.int p0), (.int x1), (.int x2), (.int x3), (.int x4)] → AI Z hh a .int [(.int p0), (.int x1), (.int x2), (.int x3), (.int x4)] → AI Z hh e .int ((own_dd [p0, x1, x2, x3, x4] (min 2 C) ++ List.replicate (5 - (own_dd [p0, x1, x2, x3, x4] (min 2 C)).length) 0).map Value.int) → Ok W room_1 n0 (fun v _ => v = some (.int 1)) hh 3 15 298 [.val (.int p0), .val (.int p1), .val (.int p2), .val (.int p3), .val (.int p4), .val (.int p5), .val (.int t9), .val (.ref o), .val (.ref a), .val (.int b0), .val (.int b1), .val (.int b2), .val (.int b3), .val (.int b4), .val (.ref e), .val (.int kk), .unset] [] := by
                        intro kk hh Z0 hkk V13 V108 V257
                        refine Ok.iload cx at_298 rfl 300 rfl ?_
                        have J315 : ∀ (kk : Int32) (hh : Heap), n0 ≤ hh.size → kk.toInt = ((own_dd [p0, x1, x2, x3, x4] (min 3 C)).length : Int) → AI Z hh o .int [(.int p0), (.int x1), (.int x2), (.int x3), (.int x4)] → AI Z hh a .int [(.int p0), (.int x1), (.int x2), (.int x3), (.int x4)] → AI Z hh e .int ((own_dd [p0, x1, x2, x3, x4] (min 3 C) ++ List.replicate (5 - (own_dd [p0, x1, x2, x3, x4] (min 3 C)).length) 0).map Value.int) → Ok W room_1 n0 (fun v _ => v = some (.int 1)) hh 3 15 315 [.val (.int p0), .val (.int p1), .val (.int p2), .val (.int p3), .val (.int p4), .val (.int p5), .val (.int t9), .val (.ref o), .val (.ref a), .val (.int b0), .val (.int b1), .val (.int b2), .val (.int b3), .val (.int b4), .val (.ref e), .val (.int kk), .unset] [] := by
                          intro kk hh Z0 hkk V13 V108 V257
                          refine Ok.iload cx at_315 rfl 317 rfl ?_
                          have J332 : ∀ (kk : Int32) (hh : Heap), n0 ≤ hh.size → kk.toInt = ((own_dd [p0, x1, x2, x3, x4] (min 4 C)).length : Int) → AI Z hh o .int [(.int p0), (.int x1), (.int x2), (.int x3), (.int x4)] → AI Z hh a .int [(.int p0), (.int x1), (.int x2), (.int x3), (.int x4)] → AI Z hh e .int ((own_dd [p0, x1, x2, x3, x4] (min 4 C) ++ List.replicate (5 - (own_dd [p0, x1, x2, x3, x4] (min 4 C)).length) 0).map Value.int) → Ok W room_1 n0 (fun v _ => v = some (.int 1)) hh 3 15 332 [.val (.int p0), .val (.int p1), .val (.int p2), .val (.int p3), .val (.int p4), .val (.int p5), .val (.int t9), .val (.ref o), .val (.ref a), .val (.int b0), .val (.int b1), .val (.int b2), .val (.int b3), .val (.int b4), .val (.ref e), .val (.int kk), .unset] [] := by
                            intro kk hh Z0 hkk V13 V108 V257
                            refine Ok.iload cx at_332 rfl 334 rfl ?_
                            have J349 : ∀ (kk : Int32) (hh : Heap), n0 ≤ hh.size → kk.toInt = ((own_dd [p0, x1, x2, x3, x4] (min 5 C)).length : Int) → AI Z hh o .int [(.int p0), (.int x1), (.int x2), (.int x3), (.int x4)] → AI Z hh a .int [(.int p0), (.int x1), (.int x2), (.int x3), (.int x4)] → AI Z hh e .int ((own_dd [p0, x1, x2, x3, x4] (min 5 C) ++ List.replicate (5 - (own_dd [p0, x1, x2, x3, x4] (min 5 C)).length) 0).map Value.int) → Ok W room_1 n0 (fun v _ => v = some (.int 1)) hh 3 15 349 [.val (.int p0), .val (.int p1), .val (.int p2), .val (.int p3), .val (.int p4), .val (.int p5), .val (.int t9), .val (.ref o), .val (.ref a), .val (.int b0), .val (.int b1), .val (.int b2), .val (.int b3), .val (.int b4), .val (.ref e), .val (.int kk), .unset] [] := by
                              intro kk hh Z0 hkk V13 V108 V257
                              refine Ok.aload cx at_349 rfl 351 rfl ?_
                              refine Ok.iload cx at_351 rfl 353 rfl ?_
                              refine Ok.callStatic cx [(.ref a), (.int t9)] [] rfl (own_w hw 1 rfl) (own_w hw 2 rfl) (own_w hw 3 rfl) (own_w hw 4 rfl) at_353 (by decide) pd_0 rfl rfl  (rm_1 W.l Z a0 hw a t9 [p0, x1, x2, x3, x4] C hh n0 Z0 V108 za hC rfl hC5) (by decide) 0 rfl (by decide) (by decide) (by decide) 356 rfl fun v353 h353_ q353 => ?_
                              obtain ⟨Z0, r353, rfl, x353, V108, K353⟩ := q353
                              have V13 := V13.keep K353 (ninS ne_o_a nin0)
                              have V257 := V257.keep K353 (ninS (Ne.symm ne_a_e) nin0)
                              rw [Nat.min_eq_right hC5] at V257 hkk
                              have hD5 : (own_dd [p0, x1, x2, x3, x4] C).length ≤ C := own_ddn (xs := [p0, x1, x2, x3, x4]) C (by simp only [hx5]; omega)
                              show Ok _ _ _ _ _ _ _ _ _ [(.int r353)]
                              refine Ok.istore cx at_356 rfl One.u [.val (.int p0), .val (.int p1), .val (.int p2), .val (.int p3), .val (.int p4), .val (.int p5), .val (.int t9), .val (.ref o), .val (.ref a), .val (.int b0), .val (.int b1), .val (.int b2), .val (.int b3), .val (.int b4), .val (.ref e), .val (.int kk), .val (.int r353)] rfl 358 rfl ?_
                              refine Ok.iload cx at_358 rfl 360 rfl ?_
                              refine Ok.iload cx at_360 rfl 362 rfl ?_
                              refine Ok.icmp_eq cx at_362 367 365 (by decide) rfl (fun c362 => ?_) (fun c362 => by exfalso; omega)
                              refine Ok.aload cx at_367 rfl 369 rfl ?_
                              refine Ok.aload cx at_369 rfl 371 rfl ?_
                              refine Ok.iconst cx at_371 372 rfl (0 : Int32) rfl ?_
                              refine Ok.iload cx at_372 rfl 374 rfl ?_
                              obtain ⟨u374, w374, hu374, hw374, hd374, -⟩ := own_cmp (D := own_dd [p0, x1, x2, x3, x4] C) (xs := [p0, x1, x2, x3, x4]) (j := 0) (by omega) rfl (by decide)
                              refine Ok.callStatic cx [(.ref a), (.ref e), (.int (0 : Int32)), (.int kk)] [] rfl (own_w hw 5 rfl) (own_w hw 6 rfl) (own_w hw 7 rfl) (own_w hw 8 rfl) at_374 (by decide) pd_1 rfl rfl  (rm_2 W.l Z a0 hw a e (0 : Int32) kk u374 w374 _ _ 0 h353_ n0 Z0 V108 V257 rfl hu374 hw374) (by decide) 0 rfl (by decide) (by decide) (by decide) 377 rfl fun v374 h374_ q374 => ?_
                              obtain ⟨rfl, r374, rfl, x374⟩ := q374
                              have f374 : r374.toInt = 1 := by
                                by_cases hq : 0 < (own_dd [p0, x1, x2, x3, x4] C).length
                                · have := congrArg Int32.toInt (hd374 hq); omega
                                · omega
                              clear x374
                              show Ok _ _ _ _ _ _ _ _ _ [(.int r374)]
                              refine Ok.if_eq cx at_377 501 380 (by decide) rfl (fun c377 => by exfalso; omega) (fun c377 => ?_)
                              refine Ok.aload cx at_380 rfl 382 rfl ?_
                              refine Ok.aload cx at_382 rfl 384 rfl ?_
                              refine Ok.iconst cx at_384 385 rfl (1 : Int32) rfl ?_
                              refine Ok.iload cx at_385 rfl 387 rfl ?_
                              obtain ⟨u387, w387, hu387, hw387, hd387, -⟩ := own_cmp (D := own_dd [p0, x1, x2, x3, x4] C) (xs := [p0, x1, x2, x3, x4]) (j := 1) (by omega) rfl (by decide)
                              refine Ok.callStatic cx [(.ref a), (.ref e), (.int (1 : Int32)), (.int kk)] [] rfl (own_w hw 5 rfl) (own_w hw 6 rfl) (own_w hw 7 rfl) (own_w hw 8 rfl) at_387 (by decide) pd_1 rfl rfl  (rm_2 W.l Z a0 hw a e (1 : Int32) kk u387 w387 _ _ 1 h353_ n0 Z0 V108 V257 rfl hu387 hw387) (by decide) 0 rfl (by decide) (by decide) (by decide) 390 rfl fun v387 h387_ q387 => ?_
                              obtain ⟨rfl, r387, rfl, x387⟩ := q387
                              have f387 : r387.toInt = 1 := by
                                by_cases hq : 1 < (own_dd [p0, x1, x2, x3, x4] C).length
                                · have := congrArg Int32.toInt (hd387 hq); omega
                                · omega
                              clear x387
                              show Ok _ _ _ _ _ _ _ _ _ [(.int r387)]
                              refine Ok.if_eq cx at_390 501 393 (by decide) rfl (fun c390 => by exfalso; omega) (fun c390 => ?_)
                              refine Ok.aload cx at_393 rfl 395 rfl ?_
                              refine Ok.aload cx at_395 rfl 397 rfl ?_
                              refine Ok.iconst cx at_397 398 rfl (2 : Int32) rfl ?_
                              refine Ok.iload cx at_398 rfl 400 rfl ?_
                              obtain ⟨u400, w400, hu400, hw400, hd400, -⟩ := own_cmp (D := own_dd [p0, x1, x2, x3, x4] C) (xs := [p0, x1, x2, x3, x4]) (j := 2) (by omega) rfl (by decide)
                              refine Ok.callStatic cx [(.ref a), (.ref e), (.int (2 : Int32)), (.int kk)] [] rfl (own_w hw 5 rfl) (own_w hw 6 rfl) (own_w hw 7 rfl) (own_w hw 8 rfl) at_400 (by decide) pd_1 rfl rfl  (rm_2 W.l Z a0 hw a e (2 : Int32) kk u400 w400 _ _ 2 h353_ n0 Z0 V108 V257 rfl hu400 hw400) (by decide) 0 rfl (by decide) (by decide) (by decide) 403 rfl fun v400 h400_ q400 => ?_
                              obtain ⟨rfl, r400, rfl, x400⟩ := q400
                              have f400 : r400.toInt = 1 := by
                                by_cases hq : 2 < (own_dd [p0, x1, x2, x3, x4] C).length
                                · have := congrArg Int32.toInt (hd400 hq); omega
                                · omega
                              clear x400
                              show Ok _ _ _ _ _ _ _ _ _ [(.int r400)]
                              refine Ok.if_eq cx at_403 501 406 (by decide) rfl (fun c403 => by exfalso; omega) (fun c403 => ?_)
                              refine Ok.aload cx at_406 rfl 408 rfl ?_
                              refine Ok.aload cx at_408 rfl 410 rfl ?_
                              refine Ok.iconst cx at_410 411 rfl (3 : Int32) rfl ?_
                              refine Ok.iload cx at_411 rfl 413 rfl ?_
                              obtain ⟨u413, w413, hu413, hw413, hd413, -⟩ := own_cmp (D := own_dd [p0, x1, x2, x3, x4] C) (xs := [p0, x1, x2, x3, x4]) (j := 3) (by omega) rfl (by decide)
                              refine Ok.callStatic cx [(.ref a), (.ref e), (.int (3 : Int32)), (.int kk)] [] rfl (own_w hw 5 rfl) (own_w hw 6 rfl) (own_w hw 7 rfl) (own_w hw 8 rfl) at_413 (by decide) pd_1 rfl rfl  (rm_2 W.l Z a0 hw a e (3 : Int32) kk u413 w413 _ _ 3 h353_ n0 Z0 V108 V257 rfl hu413 hw413) (by decide) 0 rfl (by decide) (by decide) (by decide) 416 rfl fun v413 h413_ q413 => ?_
                              obtain ⟨rfl, r413, rfl, x413⟩ := q413
                              have f413 : r413.toInt = 1 := by
                                by_cases hq : 3 < (own_dd [p0, x1, x2, x3, x4] C).length
                                · have := congrArg Int32.toInt (hd413 hq); omega
                                · omega
                              clear x413
                              show Ok _ _ _ _ _ _ _ _ _ [(.int r413)]
                              refine Ok.if_eq cx at_416 501 419 (by decide) rfl (fun c416 => by exfalso; omega) (fun c416 => ?_)
                              refine Ok.aload cx at_419 rfl 421 rfl ?_
                              refine Ok.aload cx at_421 rfl 423 rfl ?_
                              refine Ok.iconst cx at_423 424 rfl (4 : Int32) rfl ?_
                              refine Ok.iload cx at_424 rfl 426 rfl ?_
                              obtain ⟨u426, w426, hu426, hw426, hd426, -⟩ := own_cmp (D := own_dd [p0, x1, x2, x3, x4] C) (xs := [p0, x1, x2, x3, x4]) (j := 4) (by omega) rfl (by decide)
                              refine Ok.callStatic cx [(.ref a), (.ref e), (.int (4 : Int32)), (.int kk)] [] rfl (own_w hw 5 rfl) (own_w hw 6 rfl) (own_w hw 7 rfl) (own_w hw 8 rfl) at_426 (by decide) pd_1 rfl rfl  (rm_2 W.l Z a0 hw a e (4 : Int32) kk u426 w426 _ _ 4 h353_ n0 Z0 V108 V257 rfl hu426 hw426) (by decide) 0 rfl (by decide) (by decide) (by decide) 429 rfl fun v426 h426_ q426 => ?_
                              obtain ⟨rfl, r426, rfl, x426⟩ := q426
                              have f426 : r426.toInt = 1 := by
                                by_cases hq : 4 < (own_dd [p0, x1, x2, x3, x4] C).length
                                · have := congrArg Int32.toInt (hd426 hq); omega
                                · omega
                              clear x426
                              show Ok _ _ _ _ _ _ _ _ _ [(.int r426)]
                              refine Ok.if_eq cx at_429 501 432 (by decide) rfl (fun c429 => by exfalso; omega) (fun c429 => ?_)
                              refine Ok.aload cx at_432 rfl 434 rfl ?_
                              refine Ok.aload cx at_434 rfl 436 rfl ?_
                              refine Ok.iconst cx at_436 437 rfl (0 : Int32) rfl ?_
                              refine Ok.iload cx at_437 rfl 439 rfl ?_
                              obtain ⟨u439, w439, hu439, -, -, hd439⟩ := own_cmp (D := own_dd [p0, x1, x2, x3, x4] C) (xs := [p0, x1, x2, x3, x4]) (j := 0) (by omega) rfl (by decide)
                              refine Ok.callStatic cx [(.ref a), (.ref o), (.int (0 : Int32)), (.int t9)] [] rfl (own_w hw 9 rfl) (own_w hw 10 rfl) (own_w hw 7 rfl) (own_w hw 11 rfl) at_439 (by decide) pd_1 rfl rfl  (rm_3 W.l Z a0 hw a o (0 : Int32) t9 u439 p0 _ _ 0 h353_ n0 Z0 V108 V13 rfl hu439 rfl) (by decide) 0 rfl (by decide) (by decide) (by decide) 442 rfl fun v439 h439_ q439 => ?_
                              obtain ⟨rfl, r439, rfl, x439⟩ := q439
                              have f439 : r439.toInt = 1 := by
                                by_cases hq : (own_dd [p0, x1, x2, x3, x4] C).length ≤ 0
                                · have := congrArg Int32.toInt (Option.some.inj (hd439 hq)); omega
                                · omega
                              clear x439
                              show Ok _ _ _ _ _ _ _ _ _ [(.int r439)]
                              refine Ok.if_eq cx at_442 501 445 (by decide) rfl (fun c442 => by exfalso; omega) (fun c442 => ?_)
                              refine Ok.aload cx at_445 rfl 447 rfl ?_
                              refine Ok.aload cx at_447 rfl 449 rfl ?_
                              refine Ok.iconst cx at_449 450 rfl (1 : Int32) rfl ?_
                              refine Ok.iload cx at_450 rfl 452 rfl ?_
                              obtain ⟨u452, w452, hu452, -, -, hd452⟩ := own_cmp (D := own_dd [p0, x1, x2, x3, x4] C) (xs := [p0, x1, x2, x3, x4]) (j := 1) (by omega) rfl (by decide)
                              refine Ok.callStatic cx [(.ref a), (.ref o), (.int (1 : Int32)), (.int t9)] [] rfl (own_w hw 9 rfl) (own_w hw 10 rfl) (own_w hw 7 rfl) (own_w hw 11 rfl) at_452 (by decide) pd_1 rfl rfl  (rm_3 W.l Z a0 hw a o (1 : Int32) t9 u452 x1 _ _ 1 h353_ n0 Z0 V108 V13 rfl hu452 rfl) (by decide) 0 rfl (by decide) (by decide) (by decide) 455 rfl fun v452 h452_ q452 => ?_
                              obtain ⟨rfl, r452, rfl, x452⟩ := q452
                              have f452 : r452.toInt = 1 := by
                                by_cases hq : (own_dd [p0, x1, x2, x3, x4] C).length ≤ 1
                                · have := congrArg Int32.toInt (Option.some.inj (hd452 hq)); omega
                                · omega
                              clear x452
                              show Ok _ _ _ _ _ _ _ _ _ [(.int r452)]
                              refine Ok.if_eq cx at_455 501 458 (by decide) rfl (fun c455 => by exfalso; omega) (fun c455 => ?_)
                              refine Ok.aload cx at_458 rfl 460 rfl ?_
                              refine Ok.aload cx at_460 rfl 462 rfl ?_
                              refine Ok.iconst cx at_462 463 rfl (2 : Int32) rfl ?_
                              refine Ok.iload cx at_463 rfl 465 rfl ?_
                              obtain ⟨u465, w465, hu465, -, -, hd465⟩ := own_cmp (D := own_dd [p0, x1, x2, x3, x4] C) (xs := [p0, x1, x2, x3, x4]) (j := 2) (by omega) rfl (by decide)
                              refine Ok.callStatic cx [(.ref a), (.ref o), (.int (2 : Int32)), (.int t9)] [] rfl (own_w hw 9 rfl) (own_w hw 10 rfl) (own_w hw 7 rfl) (own_w hw 11 rfl) at_465 (by decide) pd_1 rfl rfl  (rm_3 W.l Z a0 hw a o (2 : Int32) t9 u465 x2 _ _ 2 h353_ n0 Z0 V108 V13 rfl hu465 rfl) (by decide) 0 rfl (by decide) (by decide) (by decide) 468 rfl fun v465 h465_ q465 => ?_
                              obtain ⟨rfl, r465, rfl, x465⟩ := q465
                              have f465 : r465.toInt = 1 := by
                                by_cases hq : (own_dd [p0, x1, x2, x3, x4] C).length ≤ 2
                                · have := congrArg Int32.toInt (Option.some.inj (hd465 hq)); omega
                                · omega
                              clear x465
                              show Ok _ _ _ _ _ _ _ _ _ [(.int r465)]
                              refine Ok.if_eq cx at_468 501 471 (by decide) rfl (fun c468 => by exfalso; omega) (fun c468 => ?_)
                              refine Ok.aload cx at_471 rfl 473 rfl ?_
                              refine Ok.aload cx at_473 rfl 475 rfl ?_
                              refine Ok.iconst cx at_475 476 rfl (3 : Int32) rfl ?_
                              refine Ok.iload cx at_476 rfl 478 rfl ?_
                              obtain ⟨u478, w478, hu478, -, -, hd478⟩ := own_cmp (D := own_dd [p0, x1, x2, x3, x4] C) (xs := [p0, x1, x2, x3, x4]) (j := 3) (by omega) rfl (by decide)
                              refine Ok.callStatic cx [(.ref a), (.ref o), (.int (3 : Int32)), (.int t9)] [] rfl (own_w hw 9 rfl) (own_w hw 10 rfl) (own_w hw 7 rfl) (own_w hw 11 rfl) at_478 (by decide) pd_1 rfl rfl  (rm_3 W.l Z a0 hw a o (3 : Int32) t9 u478 x3 _ _ 3 h353_ n0 Z0 V108 V13 rfl hu478 rfl) (by decide) 0 rfl (by decide) (by decide) (by decide) 481 rfl fun v478 h478_ q478 => ?_
                              obtain ⟨rfl, r478, rfl, x478⟩ := q478
                              have f478 : r478.toInt = 1 := by
                                by_cases hq : (own_dd [p0, x1, x2, x3, x4] C).length ≤ 3
                                · have := congrArg Int32.toInt (Option.some.inj (hd478 hq)); omega
                                · omega
                              clear x478
                              show Ok _ _ _ _ _ _ _ _ _ [(.int r478)]
                              refine Ok.if_eq cx at_481 501 484 (by decide) rfl (fun c481 => by exfalso; omega) (fun c481 => ?_)
                              refine Ok.aload cx at_484 rfl 486 rfl ?_
                              refine Ok.aload cx at_486 rfl 488 rfl ?_
                              refine Ok.iconst cx at_488 489 rfl (4 : Int32) rfl ?_
                              refine Ok.iload cx at_489 rfl 491 rfl ?_
                              obtain ⟨u491, w491, hu491, -, -, hd491⟩ := own_cmp (D := own_dd [p0, x1, x2, x3, x4] C) (xs := [p0, x1, x2, x3, x4]) (j := 4) (by omega) rfl (by decide)
                              refine Ok.callStatic cx [(.ref a), (.ref o), (.int (4 : Int32)), (.int t9)] [] rfl (own_w hw 9 rfl) (own_w hw 10 rfl) (own_w hw 7 rfl) (own_w hw 11 rfl) at_491 (by decide) pd_1 rfl rfl  (rm_3 W.l Z a0 hw a o (4 : Int32) t9 u491 x4 _ _ 4 h353_ n0 Z0 V108 V13 rfl hu491 rfl) (by decide) 0 rfl (by decide) (by decide) (by decide) 494 rfl fun v491 h491_ q491 => ?_
                              obtain ⟨rfl, r491, rfl, x491⟩ := q491
                              have f491 : r491.toInt = 1 := by
                                by_cases hq : (own_dd [p0, x1, x2, x3, x4] C).length ≤ 4
                                · have := congrArg Int32.toInt (Option.some.inj (hd491 hq)); omega
                                · omega
                              clear x491
                              show Ok _ _ _ _ _ _ _ _ _ [(.int r491)]
                              refine Ok.if_eq cx at_494 501 497 (by decide) rfl (fun c494 => by exfalso; omega) (fun c494 => ?_)
                              refine Ok.iconst cx at_497 498 rfl (1 : Int32) rfl ?_
                              refine Ok.goto cx at_498 502 (by decide) ?_
                              exact Ok.zreturn cx at_502 (by decide) (by decide) rfl
                            refine Ok.if_eq cx at_334 349 337 (by decide) rfl (fun c334 => ?_) (fun c334 => ?_)
                            · skip
                              have hap4 : own_dd [p0, x1, x2, x3, x4] (min 5 C) = own_dd [p0, x1, x2, x3, x4] (min 4 C) := own_no (x := x4) rfl (by
                                by_cases hq : C ≤ 4
                                · exact Or.inl hq
                                · exact Or.inr (by rw [own_ddl (xs := [p0, x1, x2, x3, x4]) (i := 3) (x := x3) rfl, own_eq (show x3.toInt = x4.toInt by omega)]))
                              exact J349 kk hh Z0 (by rw [hap4]; exact hkk) V13 V108 (by rw [hap4]; exact V257)
                            · skip
                              have hap4 : own_dd [p0, x1, x2, x3, x4] (min 5 C) = own_dd [p0, x1, x2, x3, x4] (min 4 C) ++ [x4] := own_yes (by omega) rfl (by rw [own_ddl (xs := [p0, x1, x2, x3, x4]) (i := 3) (x := x3) rfl]; exact own_ne (by omega))
                              refine Ok.aload cx at_337 rfl 339 rfl ?_
                              refine Ok.iload cx at_339 rfl 341 rfl ?_
                              refine Ok.aload cx at_341 rfl 343 rfl ?_
                              refine Ok.iconst cx at_343 344 rfl (4 : Int32) rfl ?_
                              refine Ok.iaload cx at_344 V13 (4) rfl (v := (.int x4)) rfl 345 rfl ?_
                              refine Ok.iastore cx at_345 V257 ((own_dd [p0, x1, x2, x3, x4] (min 4 C)).length) hkk (by have := own_ddn (xs := [p0, x1, x2, x3, x4]) (min 4 C) (by simp only [hx5]; omega); simp only [List.length_map, List.length_append, List.length_replicate]; omega) (by first | assumption | omega) 346 rfl fun h345_ W345 G345 => ?_
                              have Z0 := Nat.le_trans Z0 (Nat.le_of_eq W345.size.symm)
                              have V13 := V13.other W345 (by first | assumption | (apply Ne.symm; assumption))
                              have V108 := V108.other W345 (by first | assumption | (apply Ne.symm; assumption))
                              have V257 := G345
                              have hlt : (own_dd [p0, x1, x2, x3, x4] (min 4 C)).length < 5 := by have := own_ddn (xs := [p0, x1, x2, x3, x4]) (min 4 C) (by simp only [hx5]; omega); omega
                              have V257 : AI Z h345_ e .int (((own_dd [p0, x1, x2, x3, x4] (min 4 C) ++ [x4]) ++ List.replicate (5 - (own_dd [p0, x1, x2, x3, x4] (min 4 C) ++ [x4]).length) 0).map Value.int) := by rw [← own_we hlt]; exact V257
                              refine Ok.iinc cx at_346 rfl (1 : Int32) rfl (fun y => [.val (.int p0), .val (.int p1), .val (.int p2), .val (.int p3), .val (.int p4), .val (.int p5), .val (.int t9), .val (.ref o), .val (.ref a), .val (.int b0), .val (.int b1), .val (.int b2), .val (.int b3), .val (.int b4), .val (.ref e), .val (.int y), .unset]) (fun _ => rfl) 349 rfl fun t346 e346 => ?_
                              have sK := own_add e346 (by omega) (by omega)
                              exact J349 t346 h345_ Z0 (by rw [hap4]; simp only [List.length_append, List.length_cons, List.length_nil]; omega) V13 V108 (by rw [hap4]; exact V257)
                          refine Ok.if_eq cx at_317 332 320 (by decide) rfl (fun c317 => ?_) (fun c317 => ?_)
                          · skip
                            have hap3 : own_dd [p0, x1, x2, x3, x4] (min 4 C) = own_dd [p0, x1, x2, x3, x4] (min 3 C) := own_no (x := x3) rfl (by
                              by_cases hq : C ≤ 3
                              · exact Or.inl hq
                              · exact Or.inr (by rw [own_ddl (xs := [p0, x1, x2, x3, x4]) (i := 2) (x := x2) rfl, own_eq (show x2.toInt = x3.toInt by omega)]))
                            exact J332 kk hh Z0 (by rw [hap3]; exact hkk) V13 V108 (by rw [hap3]; exact V257)
                          · skip
                            have hap3 : own_dd [p0, x1, x2, x3, x4] (min 4 C) = own_dd [p0, x1, x2, x3, x4] (min 3 C) ++ [x3] := own_yes (by omega) rfl (by rw [own_ddl (xs := [p0, x1, x2, x3, x4]) (i := 2) (x := x2) rfl]; exact own_ne (by omega))
                            refine Ok.aload cx at_320 rfl 322 rfl ?_
                            refine Ok.iload cx at_322 rfl 324 rfl ?_
                            refine Ok.aload cx at_324 rfl 326 rfl ?_
                            refine Ok.iconst cx at_326 327 rfl (3 : Int32) rfl ?_
                            refine Ok.iaload cx at_327 V13 (3) rfl (v := (.int x3)) rfl 328 rfl ?_
                            refine Ok.iastore cx at_328 V257 ((own_dd [p0, x1, x2, x3, x4] (min 3 C)).length) hkk (by have := own_ddn (xs := [p0, x1, x2, x3, x4]) (min 3 C) (by simp only [hx5]; omega); simp only [List.length_map, List.length_append, List.length_replicate]; omega) (by first | assumption | omega) 329 rfl fun h328_ W328 G328 => ?_
                            have Z0 := Nat.le_trans Z0 (Nat.le_of_eq W328.size.symm)
                            have V13 := V13.other W328 (by first | assumption | (apply Ne.symm; assumption))
                            have V108 := V108.other W328 (by first | assumption | (apply Ne.symm; assumption))
                            have V257 := G328
                            have hlt : (own_dd [p0, x1, x2, x3, x4] (min 3 C)).length < 5 := by have := own_ddn (xs := [p0, x1, x2, x3, x4]) (min 3 C) (by simp only [hx5]; omega); omega
                            have V257 : AI Z h328_ e .int (((own_dd [p0, x1, x2, x3, x4] (min 3 C) ++ [x3]) ++ List.replicate (5 - (own_dd [p0, x1, x2, x3, x4] (min 3 C) ++ [x3]).length) 0).map Value.int) := by rw [← own_we hlt]; exact V257
                            refine Ok.iinc cx at_329 rfl (1 : Int32) rfl (fun y => [.val (.int p0), .val (.int p1), .val (.int p2), .val (.int p3), .val (.int p4), .val (.int p5), .val (.int t9), .val (.ref o), .val (.ref a), .val (.int b0), .val (.int b1), .val (.int b2), .val (.int b3), .val (.int b4), .val (.ref e), .val (.int y), .unset]) (fun _ => rfl) 332 rfl fun t329 e329 => ?_
                            have sK := own_add e329 (by omega) (by omega)
                            exact J332 t329 h328_ Z0 (by rw [hap3]; simp only [List.length_append, List.length_cons, List.length_nil]; omega) V13 V108 (by rw [hap3]; exact V257)
                        refine Ok.if_eq cx at_300 315 303 (by decide) rfl (fun c300 => ?_) (fun c300 => ?_)
                        · skip
                          have hap2 : own_dd [p0, x1, x2, x3, x4] (min 3 C) = own_dd [p0, x1, x2, x3, x4] (min 2 C) := own_no (x := x2) rfl (by
                            by_cases hq : C ≤ 2
                            · exact Or.inl hq
                            · exact Or.inr (by rw [own_ddl (xs := [p0, x1, x2, x3, x4]) (i := 1) (x := x1) rfl, own_eq (show x1.toInt = x2.toInt by omega)]))
                          exact J315 kk hh Z0 (by rw [hap2]; exact hkk) V13 V108 (by rw [hap2]; exact V257)
                        · skip
                          have hap2 : own_dd [p0, x1, x2, x3, x4] (min 3 C) = own_dd [p0, x1, x2, x3, x4] (min 2 C) ++ [x2] := own_yes (by omega) rfl (by rw [own_ddl (xs := [p0, x1, x2, x3, x4]) (i := 1) (x := x1) rfl]; exact own_ne (by omega))
                          refine Ok.aload cx at_303 rfl 305 rfl ?_
                          refine Ok.iload cx at_305 rfl 307 rfl ?_
                          refine Ok.aload cx at_307 rfl 309 rfl ?_
                          refine Ok.iconst cx at_309 310 rfl (2 : Int32) rfl ?_
                          refine Ok.iaload cx at_310 V13 (2) rfl (v := (.int x2)) rfl 311 rfl ?_
                          refine Ok.iastore cx at_311 V257 ((own_dd [p0, x1, x2, x3, x4] (min 2 C)).length) hkk (by have := own_ddn (xs := [p0, x1, x2, x3, x4]) (min 2 C) (by simp only [hx5]; omega); simp only [List.length_map, List.length_append, List.length_replicate]; omega) (by first | assumption | omega) 312 rfl fun h311_ W311 G311 => ?_
                          have Z0 := Nat.le_trans Z0 (Nat.le_of_eq W311.size.symm)
                          have V13 := V13.other W311 (by first | assumption | (apply Ne.symm; assumption))
                          have V108 := V108.other W311 (by first | assumption | (apply Ne.symm; assumption))
                          have V257 := G311
                          have hlt : (own_dd [p0, x1, x2, x3, x4] (min 2 C)).length < 5 := by have := own_ddn (xs := [p0, x1, x2, x3, x4]) (min 2 C) (by simp only [hx5]; omega); omega
                          have V257 : AI Z h311_ e .int (((own_dd [p0, x1, x2, x3, x4] (min 2 C) ++ [x2]) ++ List.replicate (5 - (own_dd [p0, x1, x2, x3, x4] (min 2 C) ++ [x2]).length) 0).map Value.int) := by rw [← own_we hlt]; exact V257
                          refine Ok.iinc cx at_312 rfl (1 : Int32) rfl (fun y => [.val (.int p0), .val (.int p1), .val (.int p2), .val (.int p3), .val (.int p4), .val (.int p5), .val (.int t9), .val (.ref o), .val (.ref a), .val (.int b0), .val (.int b1), .val (.int b2), .val (.int b3), .val (.int b4), .val (.ref e), .val (.int y), .unset]) (fun _ => rfl) 315 rfl fun t312 e312 => ?_
                          have sK := own_add e312 (by omega) (by omega)
                          exact J315 t312 h311_ Z0 (by rw [hap2]; simp only [List.length_append, List.length_cons, List.length_nil]; omega) V13 V108 (by rw [hap2]; exact V257)
                      refine Ok.if_eq cx at_283 298 286 (by decide) rfl (fun c283 => ?_) (fun c283 => ?_)
                      · skip
                        have hap1 : own_dd [p0, x1, x2, x3, x4] (min 2 C) = own_dd [p0, x1, x2, x3, x4] (min 1 C) := own_no (x := x1) rfl (by
                          by_cases hq : C ≤ 1
                          · exact Or.inl hq
                          · exact Or.inr (by rw [own_ddl (xs := [p0, x1, x2, x3, x4]) (i := 0) (x := p0) rfl, own_eq (show p0.toInt = x1.toInt by omega)]))
                        exact J298 kk hh Z0 (by rw [hap1]; exact hkk) V13 V108 (by rw [hap1]; exact V257)
                      · skip
                        have hap1 : own_dd [p0, x1, x2, x3, x4] (min 2 C) = own_dd [p0, x1, x2, x3, x4] (min 1 C) ++ [x1] := own_yes (by omega) rfl (by rw [own_ddl (xs := [p0, x1, x2, x3, x4]) (i := 0) (x := p0) rfl]; exact own_ne (by omega))
                        refine Ok.aload cx at_286 rfl 288 rfl ?_
                        refine Ok.iload cx at_288 rfl 290 rfl ?_
                        refine Ok.aload cx at_290 rfl 292 rfl ?_
                        refine Ok.iconst cx at_292 293 rfl (1 : Int32) rfl ?_
                        refine Ok.iaload cx at_293 V13 (1) rfl (v := (.int x1)) rfl 294 rfl ?_
                        refine Ok.iastore cx at_294 V257 ((own_dd [p0, x1, x2, x3, x4] (min 1 C)).length) hkk (by have := own_ddn (xs := [p0, x1, x2, x3, x4]) (min 1 C) (by simp only [hx5]; omega); simp only [List.length_map, List.length_append, List.length_replicate]; omega) (by first | assumption | omega) 295 rfl fun h294_ W294 G294 => ?_
                        have Z0 := Nat.le_trans Z0 (Nat.le_of_eq W294.size.symm)
                        have V13 := V13.other W294 (by first | assumption | (apply Ne.symm; assumption))
                        have V108 := V108.other W294 (by first | assumption | (apply Ne.symm; assumption))
                        have V257 := G294
                        have hlt : (own_dd [p0, x1, x2, x3, x4] (min 1 C)).length < 5 := by have := own_ddn (xs := [p0, x1, x2, x3, x4]) (min 1 C) (by simp only [hx5]; omega); omega
                        have V257 : AI Z h294_ e .int (((own_dd [p0, x1, x2, x3, x4] (min 1 C) ++ [x1]) ++ List.replicate (5 - (own_dd [p0, x1, x2, x3, x4] (min 1 C) ++ [x1]).length) 0).map Value.int) := by rw [← own_we hlt]; exact V257
                        refine Ok.iinc cx at_295 rfl (1 : Int32) rfl (fun y => [.val (.int p0), .val (.int p1), .val (.int p2), .val (.int p3), .val (.int p4), .val (.int p5), .val (.int t9), .val (.ref o), .val (.ref a), .val (.int b0), .val (.int b1), .val (.int b2), .val (.int b3), .val (.int b4), .val (.ref e), .val (.int y), .unset]) (fun _ => rfl) 298 rfl fun t295 e295 => ?_
                        have sK := own_add e295 (by omega) (by omega)
                        exact J298 t295 h294_ Z0 (by rw [hap1]; simp only [List.length_append, List.length_cons, List.length_nil]; omega) V13 V108 (by rw [hap1]; exact V257)
                    refine Ok.if_eq cx at_266 281 269 (by decide) rfl (fun c266 => ?_) (fun c266 => ?_)
                    · skip
                      have hap0 : own_dd [p0, x1, x2, x3, x4] (min 1 C) = own_dd [p0, x1, x2, x3, x4] (min 0 C) := own_no (x := p0) rfl (Or.inl (by omega))
                      exact J281 (0 : Int32) h257_ Z0 (by rw [hap0]; exact hkk) V13 V108 (by rw [hap0]; exact V257)
                    · skip
                      have hap0 : own_dd [p0, x1, x2, x3, x4] (min 1 C) = own_dd [p0, x1, x2, x3, x4] (min 0 C) ++ [p0] := own_yes (by omega) rfl (fun e => nomatch e)
                      refine Ok.aload cx at_269 rfl 271 rfl ?_
                      refine Ok.iload cx at_271 rfl 273 rfl ?_
                      refine Ok.aload cx at_273 rfl 275 rfl ?_
                      refine Ok.iconst cx at_275 276 rfl (0 : Int32) rfl ?_
                      refine Ok.iaload cx at_276 V13 (0) rfl (v := (.int p0)) rfl 277 rfl ?_
                      refine Ok.iastore cx at_277 V257 ((own_dd [p0, x1, x2, x3, x4] (min 0 C)).length) hkk (by have := own_ddn (xs := [p0, x1, x2, x3, x4]) (min 0 C) (by simp only [hx5]; omega); simp only [List.length_map, List.length_append, List.length_replicate]; omega) (by first | assumption | omega) 278 rfl fun h277_ W277 G277 => ?_
                      have Z0 := Nat.le_trans Z0 (Nat.le_of_eq W277.size.symm)
                      have V13 := V13.other W277 (by first | assumption | (apply Ne.symm; assumption))
                      have V108 := V108.other W277 (by first | assumption | (apply Ne.symm; assumption))
                      have V257 := G277
                      have hlt : (own_dd [p0, x1, x2, x3, x4] (min 0 C)).length < 5 := by have := own_ddn (xs := [p0, x1, x2, x3, x4]) (min 0 C) (by simp only [hx5]; omega); omega
                      have V257 : AI Z h277_ e .int (((own_dd [p0, x1, x2, x3, x4] (min 0 C) ++ [p0]) ++ List.replicate (5 - (own_dd [p0, x1, x2, x3, x4] (min 0 C) ++ [p0]).length) 0).map Value.int) := by rw [← own_we hlt]; exact V257
                      refine Ok.iinc cx at_278 rfl (1 : Int32) rfl (fun y => [.val (.int p0), .val (.int p1), .val (.int p2), .val (.int p3), .val (.int p4), .val (.int p5), .val (.int t9), .val (.ref o), .val (.ref a), .val (.int b0), .val (.int b1), .val (.int b2), .val (.int b3), .val (.int b4), .val (.ref e), .val (.int y), .unset]) (fun _ => rfl) 281 rfl fun t278 e278 => ?_
                      have sK := own_add e278 (by omega) (by omega)
                      exact J281 t278 h277_ Z0 (by rw [hap0]; simp only [List.length_append, List.length_cons, List.length_nil]; omega) V13 V108 (by rw [hap0]; exact V257)
                  refine Ok.icmp_ge cx at_235 253 238 (by decide) rfl (fun c235 => ?_) (fun c235 => ?_)
                  · skip
                    refine Ok.iconst cx at_253 254 rfl (0 : Int32) rfl ?_
                    exact J254 (0 : Int32) (by omega)
                  · skip
                    refine Ok.aload cx at_238 rfl 240 rfl ?_
                    refine Ok.iconst cx at_240 241 rfl (4 : Int32) rfl ?_
                    refine Ok.iaload cx at_241 V13 (4) rfl (v := (.int x4)) rfl 242 rfl ?_
                    refine Ok.aload cx at_242 rfl 244 rfl ?_
                    refine Ok.iconst cx at_244 245 rfl (3 : Int32) rfl ?_
                    refine Ok.iaload cx at_245 V13 (3) rfl (v := (.int x3)) rfl 246 rfl ?_
                    refine Ok.icmp_eq cx at_246 253 249 (by decide) rfl (fun c246 => ?_) (fun c246 => ?_)
                    · skip
                      refine Ok.iconst cx at_253 254 rfl (0 : Int32) rfl ?_
                      exact J254 (0 : Int32) (by omega)
                    · skip
                      refine Ok.iconst cx at_249 250 rfl (1 : Int32) rfl ?_
                      refine Ok.goto cx at_250 254 (by decide) ?_
                      exact J254 (1 : Int32) (by omega)
                refine Ok.icmp_ge cx at_211 229 214 (by decide) rfl (fun c211 => ?_) (fun c211 => ?_)
                · skip
                  refine Ok.iconst cx at_229 230 rfl (0 : Int32) rfl ?_
                  exact J230 (0 : Int32) (by omega)
                · skip
                  refine Ok.aload cx at_214 rfl 216 rfl ?_
                  refine Ok.iconst cx at_216 217 rfl (3 : Int32) rfl ?_
                  refine Ok.iaload cx at_217 V13 (3) rfl (v := (.int x3)) rfl 218 rfl ?_
                  refine Ok.aload cx at_218 rfl 220 rfl ?_
                  refine Ok.iconst cx at_220 221 rfl (2 : Int32) rfl ?_
                  refine Ok.iaload cx at_221 V13 (2) rfl (v := (.int x2)) rfl 222 rfl ?_
                  refine Ok.icmp_eq cx at_222 229 225 (by decide) rfl (fun c222 => ?_) (fun c222 => ?_)
                  · skip
                    refine Ok.iconst cx at_229 230 rfl (0 : Int32) rfl ?_
                    exact J230 (0 : Int32) (by omega)
                  · skip
                    refine Ok.iconst cx at_225 226 rfl (1 : Int32) rfl ?_
                    refine Ok.goto cx at_226 230 (by decide) ?_
                    exact J230 (1 : Int32) (by omega)
              refine Ok.icmp_ge cx at_187 205 190 (by decide) rfl (fun c187 => ?_) (fun c187 => ?_)
              · skip
                refine Ok.iconst cx at_205 206 rfl (0 : Int32) rfl ?_
                exact J206 (0 : Int32) (by omega)
              · skip
                refine Ok.aload cx at_190 rfl 192 rfl ?_
                refine Ok.iconst cx at_192 193 rfl (2 : Int32) rfl ?_
                refine Ok.iaload cx at_193 V13 (2) rfl (v := (.int x2)) rfl 194 rfl ?_
                refine Ok.aload cx at_194 rfl 196 rfl ?_
                refine Ok.iconst cx at_196 197 rfl (1 : Int32) rfl ?_
                refine Ok.iaload cx at_197 V13 (1) rfl (v := (.int x1)) rfl 198 rfl ?_
                refine Ok.icmp_eq cx at_198 205 201 (by decide) rfl (fun c198 => ?_) (fun c198 => ?_)
                · skip
                  refine Ok.iconst cx at_205 206 rfl (0 : Int32) rfl ?_
                  exact J206 (0 : Int32) (by omega)
                · skip
                  refine Ok.iconst cx at_201 202 rfl (1 : Int32) rfl ?_
                  refine Ok.goto cx at_202 206 (by decide) ?_
                  exact J206 (1 : Int32) (by omega)
            refine Ok.icmp_ge cx at_163 181 166 (by decide) rfl (fun c163 => ?_) (fun c163 => ?_)
            · skip
              refine Ok.iconst cx at_181 182 rfl (0 : Int32) rfl ?_
              exact J182 (0 : Int32) (by omega)
            · skip
              refine Ok.aload cx at_166 rfl 168 rfl ?_
              refine Ok.iconst cx at_168 169 rfl (1 : Int32) rfl ?_
              refine Ok.iaload cx at_169 V13 (1) rfl (v := (.int x1)) rfl 170 rfl ?_
              refine Ok.aload cx at_170 rfl 172 rfl ?_
              refine Ok.iconst cx at_172 173 rfl (0 : Int32) rfl ?_
              refine Ok.iaload cx at_173 V13 (0) rfl (v := (.int p0)) rfl 174 rfl ?_
              refine Ok.icmp_eq cx at_174 181 177 (by decide) rfl (fun c174 => ?_) (fun c174 => ?_)
              · skip
                refine Ok.iconst cx at_181 182 rfl (0 : Int32) rfl ?_
                exact J182 (0 : Int32) (by omega)
              · skip
                refine Ok.iconst cx at_177 178 rfl (1 : Int32) rfl ?_
                refine Ok.goto cx at_178 182 (by decide) ?_
                exact J182 (1 : Int32) (by omega)
          refine Ok.icmp_ge cx at_150 157 153 (by decide) rfl (fun c150 => ?_) (fun c150 => ?_)
          · skip
            refine Ok.iconst cx at_157 158 rfl (0 : Int32) rfl ?_
            exact J158 (0 : Int32) (by omega)
          · skip
            refine Ok.iconst cx at_153 154 rfl (1 : Int32) rfl ?_
            refine Ok.goto cx at_154 158 (by decide) ?_
            exact J158 (1 : Int32) (by omega)
        refine Ok.if_eq cx at_94 104 97 (by decide) rfl (fun c94 => ?_) (fun c94 => ?_)
        · skip
          refine Ok.iload cx at_104 rfl 106 rfl ?_
          exact J106 p4
        · skip
          refine Ok.aload cx at_97 rfl 99 rfl ?_
          refine Ok.iconst cx at_99 100 rfl (3 : Int32) rfl ?_
          refine Ok.iaload cx at_100 V13 (3) rfl (v := (.int x3)) rfl 101 rfl ?_
          refine Ok.goto cx at_101 106 (by decide) ?_
          exact J106 x3
      refine Ok.if_eq cx at_73 83 76 (by decide) rfl (fun c73 => ?_) (fun c73 => ?_)
      · skip
        refine Ok.iloadN cx at_83 rfl 84 rfl ?_
        exact J84 p3
      · skip
        refine Ok.aload cx at_76 rfl 78 rfl ?_
        refine Ok.iconst cx at_78 79 rfl (2 : Int32) rfl ?_
        refine Ok.iaload cx at_79 V13 (2) rfl (v := (.int x2)) rfl 80 rfl ?_
        refine Ok.goto cx at_80 84 (by decide) ?_
        exact J84 x2
    refine Ok.if_eq cx at_52 62 55 (by decide) rfl (fun c52 => ?_) (fun c52 => ?_)
    · skip
      refine Ok.iloadN cx at_62 rfl 63 rfl ?_
      exact J63 p2
    · skip
      refine Ok.aload cx at_55 rfl 57 rfl ?_
      refine Ok.iconst cx at_57 58 rfl (1 : Int32) rfl ?_
      refine Ok.iaload cx at_58 V13 (1) rfl (v := (.int x1)) rfl 59 rfl ?_
      refine Ok.goto cx at_59 63 (by decide) ?_
      exact J63 x1
  refine Ok.if_eq cx at_31 41 34 (by decide) rfl (fun c31 => ?_) (fun c31 => ?_)
  · skip
    refine Ok.iloadN cx at_41 rfl 42 rfl ?_
    exact J42 p1
  · skip
    refine Ok.aload cx at_34 rfl 36 rfl ?_
    refine Ok.iconst cx at_36 37 rfl (0 : Int32) rfl ?_
    refine Ok.iaload cx at_37 V13 (0) rfl (v := (.int p0)) rfl 38 rfl ?_
    refine Ok.goto cx at_38 42 (by decide) ?_
    exact J42 p0
set_option maxRecDepth 65536 in
set_option maxHeartbeats 40000000 in
theorem comes_1 {Post : Tables → Env → Array Value → State → Outcome → State → Prop} (hpost : ∀ tb e args s v u, (limb_1_1.after args s (.returned v) u = true ∧ limb_1_2.after args s (.returned v) u = true ∧ True) → FrameEnd s (.returned v) u (Jvm.fieldLocs frame_1_writes args s ++ Jvm.arrayLocs frame_1_arrays args s ++ Jvm.staticLocs frame_1_statics s) 16 128 → Post tb e args s (.returned v) u) :
    ArmFor flags0 classFile x code maxLocals ret World_1 tables_1 room_1 Calls_1 rest_1 Pre_1 Post := by
  intro l hfl _ _ p e ha hc hk s m args below hf hA hF happ hP
  obtain ⟨hcalls, hrest, hpre⟩ := hP
  obtain ⟨-, -, -, hnamed, -, -, -, hat⟩ := (Spec.applies_iff hf).mp happ
  obtain ⟨hg, hn⟩ := and_e (Cond.before_iff.mp (show (Jvm.Cond.and given_1 narrow_1).before args s = true from hpre))
  obtain ⟨hcount, g0⟩ := and_e hg
  obtain ⟨b0, g1⟩ := and_e g0
  obtain ⟨b1, g2⟩ := and_e g1
  obtain ⟨b2, g3⟩ := and_e g2
  obtain ⟨b3, g4⟩ := and_e g3
  obtain ⟨b4, g5⟩ := and_e g4
  have b5 := g5
  obtain ⟨w0, w1, w2, w3, w4, w5, rfl⟩ : ∃ w0 w1 w2 w3 w4 w5 : Value, args = #[w0, w1, w2, w3, w4, w5] := by
    have hs : args.size = 6 := by simpa [Cond.value, given_1] using hcount
    obtain ⟨L⟩ := args
    match L, hs with
    | [w0, w1, w2, w3, w4, w5], _ => exact ⟨w0, w1, w2, w3, w4, w5, rfl⟩
  have hw := fun d (hd : d ∈ tables_1) => atoms_spec (ws := Jvm.Cond.code x code maxLocals ret :: tables_1) hat d (List.mem_cons_of_mem _ hd)
  obtain ⟨i0, q0⟩ := is_v b0
  obtain rfl : w0 = (.int i0) := Option.some.inj q0
  obtain ⟨i1, q1⟩ := is_v b1
  obtain rfl : w1 = (.int i1) := Option.some.inj q1
  obtain ⟨i2, q2⟩ := is_v b2
  obtain rfl : w2 = (.int i2) := Option.some.inj q2
  obtain ⟨i3, q3⟩ := is_v b3
  obtain rfl : w3 = (.int i3) := Option.some.inj q3
  obtain ⟨i4, q4⟩ := is_v b4
  obtain rfl : w4 = (.int i4) := Option.some.inj q4
  obtain ⟨i5, q5⟩ := is_v b5
  obtain rfl : w5 = (.int i5) := Option.some.inj q5
  obtain ⟨n, o, h1, h2, h3, _, L, rfl, ⟨rfl, N⟩, hq⟩ := rm_0 l s _ hw i0 i1 i2 i3 i4 i5 s.heap s.heap.size (Nat.le_refl _) p e ha hc hk s m _ below hf ((Spec.applies_iff_loose hf).mp happ).1 ⟨rfl, State.Warmed39.refl s, rfl⟩ trivial
  refine ⟨n, _, h1, h2, h3, hpost _ _ _ _ _ _ ⟨Cond.after_iff.mpr rfl, Cond.after_iff.mpr (eq_i res_at (Term.int_eval (1)) rfl), trivial⟩ ⟨hq.1, hq.2.1, (hq.2.2.sift fun y hy => Or.inr (N y hy)).mono (by decide) (by decide)⟩⟩
theorem main_1_1 : Claimed_1_1 := comes_1 fun _ _ _ _ _ _ h hF => ⟨h.1, hF⟩
theorem main_1_2 : Claimed_1_2 := comes_1 fun _ _ _ _ _ _ h hF => ⟨h.2.1, hF⟩
end Jvm.Pilot.@@N@@
namespace Jvm.Pilot.@@N@@
open Jvm Jvm.ClassFile Sem Op Lib Jvm.Free Jvm.Stand Jvm.Pilot.@@N@@.Jvm.D
/-! MADE BY PROGRAM (witnessworld.py) out of the Statement's table words and the real class files: 10 classes; the members and pool entries that the words name. The judged class is class 1, her method 3. -/
namespace start1
open Jvm.ClassFile
def u (s : String) : CpInfo := .utf8 (stringToUtf16 s)
/-- a pool by its gaps: so many unusable entries, then the entry; so many at the end -/
def gap : Nat → List CpInfo → List CpInfo
  | 0, r => r
  | n + 1, r => .unusable :: gap n r
def poolList (es : List (Nat × CpInfo)) (last : Nat) : List CpInfo := es.foldr (fun e r => gap e.1 (e.2 :: r)) (gap last [])
def pool (es : List (Nat × CpInfo)) (last : Nat) : Array CpInfo := ⟨poolList es last⟩
def fileOf (pool : Array CpInfo) (this : Nat) (attrs : Array Attribute := #[]) (ms : Array MethodInfo := #[]) (fl : Nat := 33) (sup : Nat := 0) (ifs : Array Nat := #[]) (fds : Array FieldInfo := #[]) : ClassFile where
  minorVersion := 0
  majorVersion := 65
  constantPool := pool
  accessFlags := fl
  thisClass := this
  superClass := sup
  interfaces := ifs
  fields := fds
  methods := ms
  attributes := attrs
def plain (name : String) (sup : Option ClassId) : Class where
  name := name
  kind := .ordinary
  loader := none
  accessFlags := 33
  super := sup
  interfaces := #[]
  cf := none
  fields := #[]
  methods := #[]
  instanceTypes := #[]
  staticTypes := #[]
  resolved := #[]
  callSites := []
  init := .initialized
  statics := none
  mirror := none

def pool0 : Array CpInfo := pool [(5, u "<init>"), (0, u "()V"), (1, .class_ 10), (1, u "java/lang/Object")] 113

def k0m0 : Method := { name := "<init>", desc := "()V", sig := { parameters := [], returnType := none }, accessFlags := 1, code := none }
/-- java/lang/Object -/
def k0 : Class := { plain "java/lang/Object" none with
  accessFlags := 33
  interfaces := #[]
  cf := some (fileOf pool0 8 #[] #[{ accessFlags := 1, nameIndex := 5, descriptorIndex := 6, attributes := #[] }] 33 0 #[] #[])
  fields := #[]
  methods := #[k0m0]
  instanceTypes := #[]
  staticTypes := #[]
  resolved := Array.replicate 124 none
  statics := none }

def pool1 : Array CpInfo := pool [(2, .class_ 4), (1, u "java/lang/Object"), (0, u "<init>"), (0, u "()V"), (0, .methodref 8 9), (0, .class_ 10), (0, .nameAndType 11 12), (0, u "com/example/twigwright/twigwright/NodeSet"), (0, u "withoutRepeats"), (0, u "([II)I"), (0, .methodref 14 15), (0, .class_ 16), (0, .nameAndType 17 18), (0, u "com/example/twigwright/twigwright/NodeSetWithoutRepeatsPinLaw"), (0, u "same"), (0, u "([I[III)Z"), (0, .methodref 14 20), (0, .nameAndType 21 18), (0, u "untouched"), (3, u "law"), (0, u "(IIIIII)Z")] 4

def k1m0 : Method := { name := "<init>", desc := "()V", sig := { parameters := [], returnType := none }, accessFlags := 1, code := none }
def k1c1 : Code := { maxStack := 3, maxLocals := 4, code := method_2_code, exceptionTable := #[], attributes := #[] }
def k1m1 : Method := { name := "same", desc := "([I[III)Z", sig := { parameters := [(.array .int), (.array .int), .int, .int], returnType := some .boolean }, accessFlags := 10, code := some k1c1 }
def k1c2 : Code := { maxStack := 3, maxLocals := 4, code := method_3_code, exceptionTable := #[], attributes := #[] }
def k1m2 : Method := { name := "untouched", desc := "([I[III)Z", sig := { parameters := [(.array .int), (.array .int), .int, .int], returnType := some .boolean }, accessFlags := 10, code := some k1c2 }
def k1c3 : Code := { maxStack := 5, maxLocals := 17, code := code, exceptionTable := #[], attributes := #[] }
def k1m3 : Method := { name := "law", desc := "(IIIIII)Z", sig := { parameters := [.int, .int, .int, .int, .int, .int], returnType := some .boolean }, accessFlags := 9, code := some k1c3 }
/-- com/example/twigwright/twigwright/NodeSetWithoutRepeatsPinLaw -/
def k1 : Class := { plain "com/example/twigwright/twigwright/NodeSetWithoutRepeatsPinLaw" (some 0) with
  accessFlags := 49
  interfaces := #[]
  cf := some (fileOf pool1 14 #[] #[{ accessFlags := 1, nameIndex := 5, descriptorIndex := 6, attributes := #[] }, { accessFlags := 10, nameIndex := 17, descriptorIndex := 18, attributes := #[] }, { accessFlags := 10, nameIndex := 21, descriptorIndex := 18, attributes := #[] }, { accessFlags := 9, nameIndex := 25, descriptorIndex := 26, attributes := #[] }] 49 2 #[] #[])
  fields := #[]
  methods := #[k1m0, k1m1, k1m2, k1m3]
  instanceTypes := #[]
  staticTypes := #[]
  resolved := Array.replicate 31 none
  statics := none }

def pool2 : Array CpInfo := pool [(2, .class_ 4), (1, u "com/example/twigwright/twigwright/Value"), (3, .class_ 10), (1, u "com/example/twigwright/twigwright/Value$Type"), (49, .class_ 61), (0, u "java/lang/Object")] 27

/-- com/example/twigwright/twigwright/Value -/
def k2 : Class := { plain "com/example/twigwright/twigwright/Value" (some 0) with
  accessFlags := 1536
  interfaces := #[]
  cf := some (fileOf pool2 2 #[.nestMembers #[8]] #[] 1536 60 #[] #[])
  fields := #[]
  methods := #[]
  instanceTypes := #[]
  staticTypes := #[]
  resolved := Array.replicate 89 none
  statics := none }

def pool3 : Array CpInfo := pool [(2, .class_ 4), (1, u "java/lang/Object"), (3, .class_ 10), (1, u "com/example/twigwright/twigwright/NodeSet"), (0, u "nodes"), (0, u "[I"), (2, u "size"), (0, u "I"), (2, u "paths"), (2, u "wholePaths"), (0, u "Z"), (2, u "summary"), (0, u "Lcom/example/twigwright/twigwright/PathSummary;"), (5, u "ROOT"), (0, u "Lcom/example/twigwright/twigwright/NodeSet;"), (5, u "EMPTY"), (92, .class_ 134), (0, u "com/example/twigwright/twigwright/Value"), (7, u "withoutRepeats"), (0, u "([II)I"), (24, .class_ 169), (0, u "com/example/twigwright/twigwright/NodeSet$Builder")] 3

def k3c0 : Code := { maxStack := 4, maxLocals := 4, code := prog_74_method_6_code, exceptionTable := #[], attributes := #[] }
def k3m0 : Method := { name := "withoutRepeats", desc := "([II)I", sig := { parameters := [(.array .int), .int], returnType := some .int }, accessFlags := 8, code := some k3c0 }
/-- com/example/twigwright/twigwright/NodeSet -/
def k3 : Class := { plain "com/example/twigwright/twigwright/NodeSet" (some 0) with
  accessFlags := 48
  interfaces := #[2]
  cf := some (fileOf pool3 8 #[.nestMembers #[168]] #[{ accessFlags := 8, nameIndex := 142, descriptorIndex := 143, attributes := #[] }] 48 2 #[133] #[{ accessFlags := 24, nameIndex := 40, descriptorIndex := 34, attributes := #[] }, { accessFlags := 26, nameIndex := 33, descriptorIndex := 34, attributes := #[] }, { accessFlags := 2, nameIndex := 11, descriptorIndex := 12, attributes := #[] }, { accessFlags := 2, nameIndex := 26, descriptorIndex := 27, attributes := #[] }, { accessFlags := 18, nameIndex := 15, descriptorIndex := 16, attributes := #[] }, { accessFlags := 18, nameIndex := 19, descriptorIndex := 12, attributes := #[] }, { accessFlags := 18, nameIndex := 22, descriptorIndex := 23, attributes := #[] }])
  fields := #[{ name := "EMPTY", type := (.object "com/example/twigwright/twigwright/NodeSet"), accessFlags := 24, slot := 0, constantValue := 0 }, { name := "ROOT", type := (.object "com/example/twigwright/twigwright/NodeSet"), accessFlags := 26, slot := 1, constantValue := 0 }, { name := "nodes", type := (.array .int), accessFlags := 2, slot := 0, constantValue := 0 }, { name := "summary", type := (.object "com/example/twigwright/twigwright/PathSummary"), accessFlags := 2, slot := 1, constantValue := 0 }, { name := "size", type := .int, accessFlags := 18, slot := 2, constantValue := 0 }, { name := "paths", type := (.array .int), accessFlags := 18, slot := 3, constantValue := 0 }, { name := "wholePaths", type := .boolean, accessFlags := 18, slot := 4, constantValue := 0 }]
  methods := #[k3m0]
  instanceTypes := #[(.array .int), (.object "com/example/twigwright/twigwright/PathSummary"), .int, (.array .int), .boolean]
  staticTypes := #[(.object "com/example/twigwright/twigwright/NodeSet"), (.object "com/example/twigwright/twigwright/NodeSet")]
  resolved := Array.replicate 173 none
  statics := none }

def pool4 : Array CpInfo := pool [(1, u "java/lang/Cloneable"), (0, .class_ 1), (0, u "java/lang/Object"), (0, .class_ 3)] 3

/-- java/lang/Cloneable -/
def k4 : Class := { plain "java/lang/Cloneable" (some 0) with
  accessFlags := 1537
  interfaces := #[]
  cf := some (fileOf pool4 2 #[] #[] 1537 4 #[] #[])
  fields := #[]
  methods := #[]
  instanceTypes := #[]
  staticTypes := #[]
  resolved := Array.replicate 8 none
  statics := none }

def pool5 : Array CpInfo := pool [(1, u "java/io/Serializable"), (0, .class_ 1), (0, u "java/lang/Object"), (0, .class_ 3)] 3

/-- java/io/Serializable -/
def k5 : Class := { plain "java/io/Serializable" (some 0) with
  accessFlags := 1537
  interfaces := #[]
  cf := some (fileOf pool5 2 #[] #[] 1537 4 #[] #[])
  fields := #[]
  methods := #[]
  instanceTypes := #[]
  staticTypes := #[]
  resolved := Array.replicate 8 none
  statics := none }

/-- the primitive byte -/
def k6 : Class := { plain "byte" none with kind := .primitive 'B', accessFlags := 0x411 }
/-- [B -/
def k7 : Class := { plain "[B" (some 0) with kind := .array 6 .byte, interfaces := #[4, 5], accessFlags := 1041 }

/-- the primitive int -/
def k8 : Class := { plain "int" none with kind := .primitive 'I', accessFlags := 0x411 }
/-- [I -/
def k9 : Class := { plain "[I" (some 0) with kind := .array 8 .int, interfaces := #[4, 5], accessFlags := 1041 }

def heap : Heap := #[]
def classes : Array Class := #[k0, k1, k2, k3, k4, k5, k6, k7, k8, k9]
def interned : List (Array UInt16 × Addr) := []
def slotsUsed : Nat := 0
def theMethod : MethodId := ⟨1, 3⟩
def args0 : Array Value := #[.int 5, .int 9, .int 7, .int 3, .int 4, .int 1]
def aboutOver (below : List Frame) : State where
  vm := { classes := classes, interned := interned.toArray }
  heap := heap
  slotsUsed := slotsUsed
  threads := #[{ frames := .invoking theMethod args0 :: below }]
def below0 : List Frame := [.native { method := ⟨0, 0⟩, args := #[] }]
def about1 : State := aboutOver below0
def p0 : Program := .bare "" "" ""
def e0 : Env := launch0.env 0 0 0
theorem w_frames : about1.frames = Frame.invoking theMethod args0 :: below0 := rfl
set_option maxRecDepth 65536 in
theorem w_args : argsFit about1.vm theMethod args0 = true := by decide +kernel
set_option maxRecDepth 65536 in
theorem w_heap : heapFits about1 = true := by decide +kernel
set_option maxRecDepth 65536 in
theorem w_runnable : about1.curStatus? = some .runnable := by decide +kernel
set_option maxRecDepth 65536 in
theorem w_alone : about1.alone = true := by decide +kernel
set_option maxRecDepth 65536 in
theorem w_named : about1.methodNamed? x = some theMethod := by decide +kernel
set_option maxRecDepth 65536 in
theorem w_hears : about1.hears theMethod below0 = true := by decide +kernel
set_option maxRecDepth 65536 in
theorem w_ripe : about1.ripe theMethod args0 below0 = true := by decide +kernel
theorem w_running : about1.status = .running := rfl
set_option maxRecDepth 65536 in
theorem w_room : about1.hasRoom e0.platform room_1 = true :=
  launch0.hasRoom_least _ room_1 (by decide +kernel) (by decide +kernel) (by decide +kernel) (by decide +kernel) (by decide +kernel) (by decide +kernel)
theorem allAtoms_all (ts : List Jvm.Cond) (a : Array Jvm.Value) (st : Jvm.State) : (allAtoms ts).before a st = ts.all (fun c => c.before a st) := by
  induction ts with
  | nil => rfl
  | cons c t ih =>
    show (Jvm.Cond.and c (allAtoms t)).before a st = _
    rw [Jvm.Cond.before_and, ih, List.all_cons]
def words1 : List Jvm.Cond := Jvm.Cond.code x code maxLocals ret :: tables_1
/-- a 'code' word, met by the world's own term for the bytes: nothing is compared byte by byte -/
theorem code_word {y : MethodName} {bytes : ByteArray} {mx : Nat} {rt : Option FieldType} {a : Array Value} {s : State} {m : MethodId} {meth : Method} {c : Code} (h1 : s.methodNamed? y = some m) (h2 : s.vm.method? m = some meth) (h3 : meth.code = some c) (h4 : c.code = bytes)
    (h5 : (c.maxLocals == mx && c.exceptionTable.isEmpty && decide (c.maxStack ≤ mostOperands) && decide (meth.sig.returnType = rt) && !meth.locks && decide (parseMethodDescriptor y.desc = some meth.sig)) = true) : (Jvm.Cond.code y bytes mx rt).before a s = true := by
  simp only [Bool.and_eq_true, beq_iff_eq, Bool.not_eq_true', decide_eq_true_eq] at h5
  obtain ⟨⟨⟨⟨⟨g1, g2⟩, g3⟩, g4⟩, g5⟩, g6⟩ := h5
  simp [Cond.before, Cond.holds, Cond.value, h1, h2, h3, h4, g1, g2, g3, g4, g5, g6]
def isCode : Jvm.Cond → Bool
  | .code _ _ _ _ => true
  | _ => false
theorem all_split {L : List Jvm.Cond} {P : Jvm.Cond → Bool} (h1 : L.all (fun c => isCode c || P c) = true) (h2 : ∀ c ∈ L.filter isCode, P c = true) : L.all P = true := by
  refine List.all_eq_true.mpr fun c hc => ?_
  have h := List.all_eq_true.mp h1 c hc
  rcases Bool.eq_false_or_eq_true (isCode c) with hi | hi
  · exact h2 c (List.mem_filter.mpr ⟨hc, hi⟩)
  · simpa [hi] using h
set_option maxRecDepth 65536 in
theorem w_c0 : (Jvm.Cond.code x code maxLocals ret).before args0 about1 = true := code_word (m := ⟨1, 3⟩) (meth := k1m3) (c := k1c3) (by decide +kernel) rfl rfl rfl (by decide +kernel)
set_option maxRecDepth 65536 in
theorem w_c1 : (Jvm.Cond.code ({ cls := "com/example/twigwright/twigwright/NodeSet", name := "withoutRepeats", desc := "([II)I" } : Jvm.MethodName) prog_74_method_6_code (4 : Nat) (Option.some Jvm.ClassFile.FieldType.int)).before args0 about1 = true := code_word (m := ⟨3, 0⟩) (meth := k3m0) (c := k3c0) (by decide +kernel) rfl rfl rfl (by decide +kernel)
set_option maxRecDepth 65536 in
theorem w_c2 : (Jvm.Cond.code ({ cls := "com/example/twigwright/twigwright/NodeSetWithoutRepeatsPinLaw", name := "same", desc := "([I[III)Z" } : Jvm.MethodName) method_2_code (4 : Nat) (Option.some Jvm.ClassFile.FieldType.boolean)).before args0 about1 = true := code_word (m := ⟨1, 1⟩) (meth := k1m1) (c := k1c1) (by decide +kernel) rfl rfl rfl (by decide +kernel)
set_option maxRecDepth 65536 in
theorem w_c3 : (Jvm.Cond.code ({ cls := "com/example/twigwright/twigwright/NodeSetWithoutRepeatsPinLaw", name := "untouched", desc := "([I[III)Z" } : Jvm.MethodName) method_3_code (4 : Nat) (Option.some Jvm.ClassFile.FieldType.boolean)).before args0 about1 = true := code_word (m := ⟨1, 2⟩) (meth := k1m2) (c := k1c2) (by decide +kernel) rfl rfl rfl (by decide +kernel)
def codes1 : List Jvm.Cond := [Jvm.Cond.code x code maxLocals ret, Jvm.Cond.code ({ cls := "com/example/twigwright/twigwright/NodeSet", name := "withoutRepeats", desc := "([II)I" } : Jvm.MethodName) prog_74_method_6_code (4 : Nat) (Option.some Jvm.ClassFile.FieldType.int), Jvm.Cond.code ({ cls := "com/example/twigwright/twigwright/NodeSetWithoutRepeatsPinLaw", name := "same", desc := "([I[III)Z" } : Jvm.MethodName) method_2_code (4 : Nat) (Option.some Jvm.ClassFile.FieldType.boolean), Jvm.Cond.code ({ cls := "com/example/twigwright/twigwright/NodeSetWithoutRepeatsPinLaw", name := "untouched", desc := "([I[III)Z" } : Jvm.MethodName) method_3_code (4 : Nat) (Option.some Jvm.ClassFile.FieldType.boolean)]
set_option maxRecDepth 65536 in
theorem codes_eq : words1.filter isCode = codes1 := rfl
theorem w_codes : ∀ c ∈ words1.filter isCode, c.before args0 about1 = true := by
  rw [codes_eq]
  intro c hc
  simp only [codes1, List.mem_cons, List.not_mem_nil, or_false] at hc
  rcases hc with rfl | rfl | rfl | rfl
  · exact w_c0
  · exact w_c1
  · exact w_c2
  · exact w_c3
set_option maxRecDepth 65536 in
theorem w_t1 : words1.all (fun c => isCode c || c.before args0 about1) = true := by decide +kernel
theorem w_tables : (allAtoms (Jvm.Cond.code x code maxLocals ret :: tables_1)).before args0 about1 = true := by
  rw [allAtoms_all]
  show words1.all (fun c => c.before args0 about1) = true
  refine all_split ?_ w_codes
  rw [w_t1]
set_option maxRecDepth 65536 in
theorem w_case : (Jvm.Cond.and given_1 narrow_1).before args0 about1 = true := by decide +kernel
theorem w_applies : (headSpec (Jvm.Cond.code x code maxLocals ret :: tables_1) room_1).applies x e0.platform about1 = true :=
  (Spec.applies_iff w_frames).mpr ⟨w_running, w_runnable, w_alone, w_named, w_hears, w_ripe, w_room, w_tables⟩
theorem atStart : AtStart classFile x code maxLocals ret World_1 tables_1 room_1 Calls_1 rest_1 Pre_1 launch0 p0 e0 about1 theMethod args0 below0 :=
  ⟨lists_1, trivial, launch0.admits_env _ _ _, launch0.least_env, fairChoices_fair.cas, fairChoices_fair.clock, w_frames, w_args, w_heap, w_applies, trivial, trivial, w_case⟩
end start1
theorem witness_1 : WitnessClaimed_1 := ⟨start1.p0, start1.e0, start1.about1, start1.theMethod, start1.args0, start1.below0, start1.atStart⟩
end Jvm.Pilot.@@N@@
