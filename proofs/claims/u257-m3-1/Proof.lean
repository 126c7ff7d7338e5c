import JvmDerived
import JvmDerived.Pilot.@@N@@Statement
import JvmDerived.Pilot.@@N@@Code
set_option linter.unusedVariables false
set_option linter.unusedSimpArgs false
namespace Jvm.Pilot.@@N@@
open Jvm Jvm.ClassFile Sem Op Lib Jvm.Free Jvm.Stand Jvm.LawKit Jvm.RoadKit Bundle Jvm.Pilot.@@N@@.Jvm.D
/-! own framework: `Ok` = 'from this frame over this heap the body comes to its end with Q'; one lemma an instruction -/
abbrev Wd : Type := Program × Launch × Env × State × MethodId × Array Value × List Frame × Method × Code
abbrev Wd.p (W : Wd) : Program := W.1
abbrev Wd.l (W : Wd) : Launch := W.2.1
abbrev Wd.e (W : Wd) : Env := W.2.2.1
abbrev Wd.s (W : Wd) : State := W.2.2.2.1
abbrev Wd.m (W : Wd) : MethodId := W.2.2.2.2.1
abbrev Wd.args (W : Wd) : Array Value := W.2.2.2.2.2.1
abbrev Wd.below (W : Wd) : List Frame := W.2.2.2.2.2.2.1
abbrev Wd.meth (W : Wd) : Method := W.2.2.2.2.2.2.2.1
abbrev Wd.c (W : Wd) : Code := W.2.2.2.2.2.2.2.2
def Ok (W : Wd) (R : Room) (n0 : Nat) (Q : Option Value → Heap → Prop) (h : Heap) (k n pc : Nat) (Ls : List Slot) (st : List Value) : Prop :=
  ∀ (T : State) (locs : List Loc), Stand W.p W.l W.e R W.s W.m W.args W.below W.meth W.c T locs k n → T.heap = h → Fr n0 locs →
    ∃ s₂ o, Steps W.p.tables W.e W.below (T.setTop (mkF W.m pc Ls.toArray st)) s₂ ∧ s₂.status = .running ∧ Ended s₂ W.below o ∧ ∃ v L, o = .returned v ∧ (Q v s₂.heap ∧ Fr n0 L) ∧ FrameEnd W.s o s₂ L R.cells R.slots
def Cx (W : Wd) (Z : State) (own nm : String) (bc : ByteArray) (maxL : Nat) (rt : Option FieldType) : Prop :=
  W.p.tables.exec = Jvm.exec ∧ Z.Warmed39 W.s.vm ∧ W.c.code = bc ∧ W.c.maxLocals = maxL ∧ W.s.vm.findClass own = some W.m.cls ∧ W.meth.sig.returnType = rt ∧ W.meth.locks = false ∧ W.meth.name = nm
section Own
variable {W : Wd} {R : Room} {n0 : Nat} {Q : Option Value → Heap → Prop} {h : Heap} {k n pc : Nat} {Ls : List Slot} {st : List Value} {Z : State} {own nm : String} {bc : ByteArray} {maxL : Nat} {rt : Option FieldType} {a0 : Array Value}
theorem Ok.back {pc' : Nat} {Ls' : List Slot} {st' : List Value} (g : Ok W R n0 Q h k n pc' Ls' st')
    (hs : ∀ (T : State) (locs : List Loc), Stand W.p W.l W.e R W.s W.m W.args W.below W.meth W.c T locs k n → T.heap = h → ∀ t, Steps W.p.tables W.e W.below (T.setTop (mkF W.m pc' Ls'.toArray st')) t → Steps W.p.tables W.e W.below (T.setTop (mkF W.m pc Ls.toArray st)) t) :
    Ok W R n0 Q h k n pc Ls st := fun T locs X e N => by
  obtain ⟨s₂, o, S, r⟩ := g T locs X e N
  exact ⟨s₂, o, hs T locs X e _ S, r⟩
/-- the same, the state (not its heap) moved -/
theorem Ok.move {pc' : Nat} {Ls' : List Slot} {st' : List Value} (g : Ok W R n0 Q h k n pc' Ls' st')
    (hs : ∀ (T : State) (locs : List Loc), Stand W.p W.l W.e R W.s W.m W.args W.below W.meth W.c T locs k n → T.heap = h → ∃ T', Stand W.p W.l W.e R W.s W.m W.args W.below W.meth W.c T' locs k n ∧ T'.heap = h ∧ ∀ t, Steps W.p.tables W.e W.below (T'.setTop (mkF W.m pc' Ls'.toArray st')) t → Steps W.p.tables W.e W.below (T.setTop (mkF W.m pc Ls.toArray st)) t) :
    Ok W R n0 Q h k n pc Ls st := fun T locs X e N => by
  obtain ⟨T', X', e', st⟩ := hs T locs X e
  obtain ⟨s₂, o, S, r⟩ := g T' locs X' e' N
  exact ⟨s₂, o, st _ S, r⟩
theorem own_get {Ls : List Slot} {i : Nat} {v : Slot} (hl : Ls[i]? = some v) : Ls.toArray[i]? = some v := by simpa using hl
theorem own_store {Ls Ls' : List Slot} {i : Nat} {v : Value} {o : Slot} (hold : Ls[i]? = some o) (ho : One o) (hv : v.category = 1) (hL : Ls.set i (.val v) = Ls') : storeLocals Ls.toArray i v = some Ls'.toArray := by
  rw [XS.store1 (own_get hold) ho hv, ← hL]; simp

theorem Ok.iload (C : Cx W Z own nm bc maxL rt) {i : Nat} {v : Int32} (hd : decode bc pc = .ok (.iload i, 2)) (hl : Ls[i]? = some (.val (.int v))) (q : Nat) (hq : pc + 2 = q) (g : Ok W R n0 Q h k n q Ls (.int v :: st)) : Ok W R n0 Q h k n pc Ls st := by
  subst hq
  exact g.back fun T locs X e t s => XS.iload X.here C.1 rfl (hb C.2.2.1 hd) (own_get hl) s
theorem Ok.iloadN (C : Cx W Z own nm bc maxL rt) {i : Fin 4} {v : Int32} (hd : decode bc pc = .ok (.iload_n i, 1)) (hl : Ls[i.val]? = some (.val (.int v))) (q : Nat) (hq : pc + 1 = q) (g : Ok W R n0 Q h k n q Ls (.int v :: st)) : Ok W R n0 Q h k n pc Ls st := by
  subst hq
  exact g.back fun T locs X e t s => XS.iloadN X.here C.1 rfl (hb C.2.2.1 hd) (own_get hl) s
theorem Ok.lload (C : Cx W Z own nm bc maxL rt) {i : Nat} {v : Int64} (hd : decode bc pc = .ok (.lload i, 2)) (hl : Ls[i]? = some (.val (.long v))) (q : Nat) (hq : pc + 2 = q) (g : Ok W R n0 Q h k n q Ls (.long v :: st)) : Ok W R n0 Q h k n pc Ls st := by
  subst hq
  exact g.back fun T locs X e t s => XS.lload X.here C.1 rfl (hb C.2.2.1 hd) (own_get hl) s
theorem Ok.lloadN (C : Cx W Z own nm bc maxL rt) {i : Fin 4} {v : Int64} (hd : decode bc pc = .ok (.lload_n i, 1)) (hl : Ls[i.val]? = some (.val (.long v))) (q : Nat) (hq : pc + 1 = q) (g : Ok W R n0 Q h k n q Ls (.long v :: st)) : Ok W R n0 Q h k n pc Ls st := by
  subst hq
  exact g.back fun T locs X e t s => XS.lloadN X.here C.1 rfl (hb C.2.2.1 hd) (own_get hl) s
theorem Ok.aload (C : Cx W Z own nm bc maxL rt) {i : Nat} {v : Addr} (hd : decode bc pc = .ok (.aload i, 2)) (hl : Ls[i]? = some (.val (.ref v))) (q : Nat) (hq : pc + 2 = q) (g : Ok W R n0 Q h k n q Ls (.ref v :: st)) : Ok W R n0 Q h k n pc Ls st := by
  subst hq
  exact g.back fun T locs X e t s => XS.aload X.here C.1 rfl (hb C.2.2.1 hd) (own_get hl) rfl s
theorem Ok.aloadN (C : Cx W Z own nm bc maxL rt) {i : Fin 4} {v : Addr} (hd : decode bc pc = .ok (.aload_n i, 1)) (hl : Ls[i.val]? = some (.val (.ref v))) (q : Nat) (hq : pc + 1 = q) (g : Ok W R n0 Q h k n q Ls (.ref v :: st)) : Ok W R n0 Q h k n pc Ls st := by
  subst hq
  exact g.back fun T locs X e t s => XS.aloadN X.here C.1 rfl (hb C.2.2.1 hd) (own_get hl) rfl s
theorem Ok.istore (C : Cx W Z own nm bc maxL rt) {i : Nat} {x : Int32} {o : Slot} (hd : decode bc pc = .ok (.istore i, 2)) (hold : Ls[i]? = some o) (ho : One o) (Ls' : List Slot) (hL : Ls.set i (.val (.int x)) = Ls') (q : Nat) (hq : pc + 2 = q) (g : Ok W R n0 Q h k n q Ls' st) : Ok W R n0 Q h k n pc Ls (.int x :: st) := by
  subst hq
  exact g.back fun T locs X e t s => XS.istore X.here C.1 rfl (hb C.2.2.1 hd) rfl (own_store hold ho rfl hL) s
theorem Ok.istoreN (C : Cx W Z own nm bc maxL rt) {i : Fin 4} {x : Int32} {o : Slot} (hd : decode bc pc = .ok (.istore_n i, 1)) (hold : Ls[i.val]? = some o) (ho : One o) (Ls' : List Slot) (hL : Ls.set i.val (.val (.int x)) = Ls') (q : Nat) (hq : pc + 1 = q) (g : Ok W R n0 Q h k n q Ls' st) : Ok W R n0 Q h k n pc Ls (.int x :: st) := by
  subst hq
  exact g.back fun T locs X e t s => XS.istoreN X.here C.1 rfl (hb C.2.2.1 hd) rfl (own_store hold ho rfl hL) s
theorem Ok.astore (C : Cx W Z own nm bc maxL rt) {i : Nat} {x : Addr} {o : Slot} (hd : decode bc pc = .ok (.astore i, 2)) (hold : Ls[i]? = some o) (ho : One o) (Ls' : List Slot) (hL : Ls.set i (.val (.ref x)) = Ls') (q : Nat) (hq : pc + 2 = q) (g : Ok W R n0 Q h k n q Ls' st) : Ok W R n0 Q h k n pc Ls (.ref x :: st) := by
  subst hq
  exact g.back fun T locs X e t s => XS.astore X.here C.1 rfl (hb C.2.2.1 hd) rfl rfl (own_store hold ho rfl hL) s
theorem Ok.astoreN (C : Cx W Z own nm bc maxL rt) {i : Fin 4} {x : Addr} {o : Slot} (hd : decode bc pc = .ok (.astore_n i, 1)) (hold : Ls[i.val]? = some o) (ho : One o) (Ls' : List Slot) (hL : Ls.set i.val (.val (.ref x)) = Ls') (q : Nat) (hq : pc + 1 = q) (g : Ok W R n0 Q h k n q Ls' st) : Ok W R n0 Q h k n pc Ls (.ref x :: st) := by
  subst hq
  exact g.back fun T locs X e t s => XS.astoreN X.here C.1 rfl (hb C.2.2.1 hd) rfl rfl (own_store hold ho rfl hL) s
theorem Ok.lstore (C : Cx W Z own nm bc maxL rt) {i : Nat} {x : Int64} (hd : decode bc pc = .ok (.lstore i, 2)) (Ls' : List Slot) (hL : storeLocals Ls.toArray i (.long x) = some Ls'.toArray) (q : Nat) (hq : pc + 2 = q) (g : Ok W R n0 Q h k n q Ls' st) : Ok W R n0 Q h k n pc Ls (.long x :: st) := by
  subst hq
  exact g.back fun T locs X e t s => XS.lstore X.here C.1 rfl (hb C.2.2.1 hd) rfl hL s
theorem Ok.lstoreN (C : Cx W Z own nm bc maxL rt) {i : Fin 4} {x : Int64} (hd : decode bc pc = .ok (.lstore_n i, 1)) (Ls' : List Slot) (hL : storeLocals Ls.toArray i.val (.long x) = some Ls'.toArray) (q : Nat) (hq : pc + 1 = q) (g : Ok W R n0 Q h k n q Ls' st) : Ok W R n0 Q h k n pc Ls (.long x :: st) := by
  subst hq
  exact g.back fun T locs X e t s => XS.lstoreN X.here C.1 rfl (hb C.2.2.1 hd) rfl hL s
theorem Ok.iconst (C : Cx W Z own nm bc maxL rt) {i : Int} (hd : decode bc pc = .ok (.iconst i, 1)) (q : Nat) (hq : pc + 1 = q) (z : Int32) (hz : Int32.ofInt i = z) (g : Ok W R n0 Q h k n q Ls (.int z :: st)) : Ok W R n0 Q h k n pc Ls st := by
  subst hq hz
  exact g.back fun T locs X e t s => XS.iconst X.here C.1 rfl (hb C.2.2.1 hd) s
theorem Ok.bipush (C : Cx W Z own nm bc maxL rt) {i : Int} (hd : decode bc pc = .ok (.bipush i, 2)) (q : Nat) (hq : pc + 2 = q) (z : Int32) (hz : (Int8.ofInt i).toInt32 = z) (g : Ok W R n0 Q h k n q Ls (.int z :: st)) : Ok W R n0 Q h k n pc Ls st := by
  subst hq hz
  exact g.back fun T locs X e t s => XS.bipush X.here C.1 rfl (hb C.2.2.1 hd) s
theorem Ok.sipush (C : Cx W Z own nm bc maxL rt) {i : Int} (hd : decode bc pc = .ok (.sipush i, 3)) (q : Nat) (hq : pc + 3 = q) (z : Int32) (hz : (Int16.ofInt i).toInt32 = z) (g : Ok W R n0 Q h k n q Ls (.int z :: st)) : Ok W R n0 Q h k n pc Ls st := by
  subst hq hz
  exact g.back fun T locs X e t s => XS.sipush X.here C.1 rfl (hb C.2.2.1 hd) s
theorem Ok.lconst (C : Cx W Z own nm bc maxL rt) {i : Fin 2} (hd : decode bc pc = .ok (.lconst i, 1)) (q : Nat) (hq : pc + 1 = q) (z : Int64) (hz : Int64.ofNat i = z) (g : Ok W R n0 Q h k n q Ls (.long z :: st)) : Ok W R n0 Q h k n pc Ls st := by
  subst hq hz
  exact g.back fun T locs X e t s => XS.lconst X.here C.1 rfl (hb C.2.2.1 hd) s
theorem Ok.ldc (C : Cx W Z own nm bc maxL rt) {i : Nat} {v : Int32} (w : (Jvm.Cond.constant own i v).before a0 Z = true) (hd : decode bc pc = .ok (.ldc i, 2)) (q : Nat) (hq : pc + 2 = q) (g : Ok W R n0 Q h k n q Ls (.int v :: st)) : Ok W R n0 Q h k n pc Ls st := by
  subst hq
  exact g.back fun T locs X e t s => X.ldcInt C.1 C.2.2.2.2.1 (mvT C.2.1 w) (g := mkF W.m pc Ls.toArray st) rfl (hb C.2.2.1 hd) t s
theorem Ok.ldc2 (C : Cx W Z own nm bc maxL rt) {i : Nat} {v : Int64} (w : (Jvm.Cond.constantLong own i v).before a0 Z = true) (hd : decode bc pc = .ok (.ldc2_w i, 3)) (q : Nat) (hq : pc + 3 = q) (g : Ok W R n0 Q h k n q Ls (.long v :: st)) : Ok W R n0 Q h k n pc Ls st := by
  subst hq
  exact g.back fun T locs X e t s => X.ldc2Long C.1 C.2.2.2.2.1 (mvT C.2.1 w) (g := mkF W.m pc Ls.toArray st) rfl (hb C.2.2.1 hd) t s
theorem Ok.iadd (C : Cx W Z own nm bc maxL rt) {x : Int32} {y : Int32} (hd : decode bc pc = .ok (.iadd, 1)) (q : Nat) (hq : pc + 1 = q) (g : ∀ z, z = x + y → Ok W R n0 Q h k n q Ls (.int z :: st)) : Ok W R n0 Q h k n pc Ls (.int y :: .int x :: st) := by
  subst hq
  exact (g _ rfl).back fun T locs X e t s => XS.iadd X.here C.1 rfl (hb C.2.2.1 hd) rfl s
theorem Ok.isub (C : Cx W Z own nm bc maxL rt) {x : Int32} {y : Int32} (hd : decode bc pc = .ok (.isub, 1)) (q : Nat) (hq : pc + 1 = q) (g : ∀ z, z = x - y → Ok W R n0 Q h k n q Ls (.int z :: st)) : Ok W R n0 Q h k n pc Ls (.int y :: .int x :: st) := by
  subst hq
  exact (g _ rfl).back fun T locs X e t s => XS.isub X.here C.1 rfl (hb C.2.2.1 hd) rfl s
theorem Ok.imul (C : Cx W Z own nm bc maxL rt) {x : Int32} {y : Int32} (hd : decode bc pc = .ok (.imul, 1)) (q : Nat) (hq : pc + 1 = q) (g : ∀ z, z = x * y → Ok W R n0 Q h k n q Ls (.int z :: st)) : Ok W R n0 Q h k n pc Ls (.int y :: .int x :: st) := by
  subst hq
  exact (g _ rfl).back fun T locs X e t s => XS.imul X.here C.1 rfl (hb C.2.2.1 hd) rfl s
theorem Ok.iand (C : Cx W Z own nm bc maxL rt) {x : Int32} {y : Int32} (hd : decode bc pc = .ok (.iand, 1)) (q : Nat) (hq : pc + 1 = q) (g : ∀ z, z = x &&& y → Ok W R n0 Q h k n q Ls (.int z :: st)) : Ok W R n0 Q h k n pc Ls (.int y :: .int x :: st) := by
  subst hq
  exact (g _ rfl).back fun T locs X e t s => XS.iand X.here C.1 rfl (hb C.2.2.1 hd) rfl s
theorem Ok.ior (C : Cx W Z own nm bc maxL rt) {x : Int32} {y : Int32} (hd : decode bc pc = .ok (.ior, 1)) (q : Nat) (hq : pc + 1 = q) (g : ∀ z, z = x ||| y → Ok W R n0 Q h k n q Ls (.int z :: st)) : Ok W R n0 Q h k n pc Ls (.int y :: .int x :: st) := by
  subst hq
  exact (g _ rfl).back fun T locs X e t s => XS.ior X.here C.1 rfl (hb C.2.2.1 hd) rfl s
theorem Ok.ixor (C : Cx W Z own nm bc maxL rt) {x : Int32} {y : Int32} (hd : decode bc pc = .ok (.ixor, 1)) (q : Nat) (hq : pc + 1 = q) (g : ∀ z, z = x ^^^ y → Ok W R n0 Q h k n q Ls (.int z :: st)) : Ok W R n0 Q h k n pc Ls (.int y :: .int x :: st) := by
  subst hq
  exact (g _ rfl).back fun T locs X e t s => XS.ixor X.here C.1 rfl (hb C.2.2.1 hd) rfl s
theorem Ok.ishl (C : Cx W Z own nm bc maxL rt) {x : Int32} {y : Int32} (hd : decode bc pc = .ok (.ishl, 1)) (q : Nat) (hq : pc + 1 = q) (g : ∀ z, z = x <<< (y &&& 31) → Ok W R n0 Q h k n q Ls (.int z :: st)) : Ok W R n0 Q h k n pc Ls (.int y :: .int x :: st) := by
  subst hq
  exact (g _ rfl).back fun T locs X e t s => XS.ishl X.here C.1 rfl (hb C.2.2.1 hd) rfl s
theorem Ok.ishr (C : Cx W Z own nm bc maxL rt) {x : Int32} {y : Int32} (hd : decode bc pc = .ok (.ishr, 1)) (q : Nat) (hq : pc + 1 = q) (g : ∀ z, z = x >>> (y &&& 31) → Ok W R n0 Q h k n q Ls (.int z :: st)) : Ok W R n0 Q h k n pc Ls (.int y :: .int x :: st) := by
  subst hq
  exact (g _ rfl).back fun T locs X e t s => XS.ishr X.here C.1 rfl (hb C.2.2.1 hd) rfl s
theorem Ok.iushr (C : Cx W Z own nm bc maxL rt) {x : Int32} {y : Int32} (hd : decode bc pc = .ok (.iushr, 1)) (q : Nat) (hq : pc + 1 = q) (g : ∀ z, z = (x.toUInt32 >>> (y &&& 31).toUInt32).toInt32 → Ok W R n0 Q h k n q Ls (.int z :: st)) : Ok W R n0 Q h k n pc Ls (.int y :: .int x :: st) := by
  subst hq
  exact (g _ rfl).back fun T locs X e t s => XS.iushr X.here C.1 rfl (hb C.2.2.1 hd) rfl s
theorem Ok.ladd (C : Cx W Z own nm bc maxL rt) {x : Int64} {y : Int64} (hd : decode bc pc = .ok (.ladd, 1)) (q : Nat) (hq : pc + 1 = q) (g : ∀ z, z = x + y → Ok W R n0 Q h k n q Ls (.long z :: st)) : Ok W R n0 Q h k n pc Ls (.long y :: .long x :: st) := by
  subst hq
  exact (g _ rfl).back fun T locs X e t s => XS.ladd X.here C.1 rfl (hb C.2.2.1 hd) rfl s
theorem Ok.lsub (C : Cx W Z own nm bc maxL rt) {x : Int64} {y : Int64} (hd : decode bc pc = .ok (.lsub, 1)) (q : Nat) (hq : pc + 1 = q) (g : ∀ z, z = x - y → Ok W R n0 Q h k n q Ls (.long z :: st)) : Ok W R n0 Q h k n pc Ls (.long y :: .long x :: st) := by
  subst hq
  exact (g _ rfl).back fun T locs X e t s => XS.lsub X.here C.1 rfl (hb C.2.2.1 hd) rfl s
theorem Ok.lmul (C : Cx W Z own nm bc maxL rt) {x : Int64} {y : Int64} (hd : decode bc pc = .ok (.lmul, 1)) (q : Nat) (hq : pc + 1 = q) (g : ∀ z, z = x * y → Ok W R n0 Q h k n q Ls (.long z :: st)) : Ok W R n0 Q h k n pc Ls (.long y :: .long x :: st) := by
  subst hq
  exact (g _ rfl).back fun T locs X e t s => XS.lmul X.here C.1 rfl (hb C.2.2.1 hd) rfl s
theorem Ok.land (C : Cx W Z own nm bc maxL rt) {x : Int64} {y : Int64} (hd : decode bc pc = .ok (.land, 1)) (q : Nat) (hq : pc + 1 = q) (g : ∀ z, z = x &&& y → Ok W R n0 Q h k n q Ls (.long z :: st)) : Ok W R n0 Q h k n pc Ls (.long y :: .long x :: st) := by
  subst hq
  exact (g _ rfl).back fun T locs X e t s => XS.land X.here C.1 rfl (hb C.2.2.1 hd) rfl s
theorem Ok.lor (C : Cx W Z own nm bc maxL rt) {x : Int64} {y : Int64} (hd : decode bc pc = .ok (.lor, 1)) (q : Nat) (hq : pc + 1 = q) (g : ∀ z, z = x ||| y → Ok W R n0 Q h k n q Ls (.long z :: st)) : Ok W R n0 Q h k n pc Ls (.long y :: .long x :: st) := by
  subst hq
  exact (g _ rfl).back fun T locs X e t s => XS.lor X.here C.1 rfl (hb C.2.2.1 hd) rfl s
theorem Ok.lxor (C : Cx W Z own nm bc maxL rt) {x : Int64} {y : Int64} (hd : decode bc pc = .ok (.lxor, 1)) (q : Nat) (hq : pc + 1 = q) (g : ∀ z, z = x ^^^ y → Ok W R n0 Q h k n q Ls (.long z :: st)) : Ok W R n0 Q h k n pc Ls (.long y :: .long x :: st) := by
  subst hq
  exact (g _ rfl).back fun T locs X e t s => XS.lxor X.here C.1 rfl (hb C.2.2.1 hd) rfl s
theorem Ok.lshl (C : Cx W Z own nm bc maxL rt) {x : Int64} {y : Int32} (hd : decode bc pc = .ok (.lshl, 1)) (q : Nat) (hq : pc + 1 = q) (g : ∀ z, z = x <<< (y &&& 0x3f).toInt64 → Ok W R n0 Q h k n q Ls (.long z :: st)) : Ok W R n0 Q h k n pc Ls (.int y :: .long x :: st) := by
  subst hq
  exact (g _ rfl).back fun T locs X e t s => XS.lshl X.here C.1 rfl (hb C.2.2.1 hd) rfl s
theorem Ok.lushr (C : Cx W Z own nm bc maxL rt) {x : Int64} {y : Int32} (hd : decode bc pc = .ok (.lushr, 1)) (q : Nat) (hq : pc + 1 = q) (g : ∀ z, z = (x.toUInt64 >>> (y &&& 0x3f).toInt64.toUInt64).toInt64 → Ok W R n0 Q h k n q Ls (.long z :: st)) : Ok W R n0 Q h k n pc Ls (.int y :: .long x :: st) := by
  subst hq
  exact (g _ rfl).back fun T locs X e t s => XS.lushr X.here C.1 rfl (hb C.2.2.1 hd) rfl s
theorem Ok.idiv (C : Cx W Z own nm bc maxL rt) {x y : Int32} (hd : decode bc pc = .ok (.idiv, 1)) (hy : y ≠ 0) (q : Nat) (hq : pc + 1 = q) (g : ∀ z, z = x / y → Ok W R n0 Q h k n q Ls (.int z :: st)) : Ok W R n0 Q h k n pc Ls (.int y :: .int x :: st) := by
  subst hq
  exact (g _ rfl).back fun T locs X e t s => XS.idiv X.here C.1 rfl (hb C.2.2.1 hd) rfl hy s
theorem Ok.ldiv (C : Cx W Z own nm bc maxL rt) {x y : Int64} (hd : decode bc pc = .ok (.ldiv, 1)) (hy : y ≠ 0) (q : Nat) (hq : pc + 1 = q) (g : ∀ z, z = x / y → Ok W R n0 Q h k n q Ls (.long z :: st)) : Ok W R n0 Q h k n pc Ls (.long y :: .long x :: st) := by
  subst hq
  exact (g _ rfl).back fun T locs X e t s => XS.ldiv X.here C.1 rfl (hb C.2.2.1 hd) rfl hy s
theorem Ok.irem (C : Cx W Z own nm bc maxL rt) {x y : Int32} (hd : decode bc pc = .ok (.irem, 1)) (hy : y ≠ 0) (q : Nat) (hq : pc + 1 = q) (g : ∀ z, z = x % y → Ok W R n0 Q h k n q Ls (.int z :: st)) : Ok W R n0 Q h k n pc Ls (.int y :: .int x :: st) := by
  subst hq
  exact (g _ rfl).back fun T locs X e t s => iremM X C.1 rfl (hb C.2.2.1 hd) rfl hy s
theorem Ok.lrem (C : Cx W Z own nm bc maxL rt) {x y : Int64} (hd : decode bc pc = .ok (.lrem, 1)) (hy : y ≠ 0) (q : Nat) (hq : pc + 1 = q) (g : ∀ z, z = x % y → Ok W R n0 Q h k n q Ls (.long z :: st)) : Ok W R n0 Q h k n pc Ls (.long y :: .long x :: st) := by
  subst hq
  have g := g _ (lrem_mod x y)
  exact g.back fun T locs X e t s => XS.lrem X.here C.1 rfl (hb C.2.2.1 hd) rfl hy s
theorem Ok.i2l (C : Cx W Z own nm bc maxL rt) {x : Int32} (hd : decode bc pc = .ok (.i2l, 1)) (q : Nat) (hq : pc + 1 = q) (g : ∀ z, z = x.toInt64 → Ok W R n0 Q h k n q Ls (.long z :: st)) : Ok W R n0 Q h k n pc Ls (.int x :: st) := by
  subst hq
  exact (g _ rfl).back fun T locs X e t s => XS.i2l X.here C.1 rfl (hb C.2.2.1 hd) rfl s
theorem Ok.l2i (C : Cx W Z own nm bc maxL rt) {x : Int64} (hd : decode bc pc = .ok (.l2i, 1)) (q : Nat) (hq : pc + 1 = q) (g : ∀ z, z = x.toInt32 → Ok W R n0 Q h k n q Ls (.int z :: st)) : Ok W R n0 Q h k n pc Ls (.long x :: st) := by
  subst hq
  exact (g _ rfl).back fun T locs X e t s => XS.l2i X.here C.1 rfl (hb C.2.2.1 hd) rfl s
theorem Ok.i2b (C : Cx W Z own nm bc maxL rt) {x : Int32} (hd : decode bc pc = .ok (.i2b, 1)) (q : Nat) (hq : pc + 1 = q) (g : ∀ z, z = x.toInt8.toInt32 → Ok W R n0 Q h k n q Ls (.int z :: st)) : Ok W R n0 Q h k n pc Ls (.int x :: st) := by
  subst hq
  exact (g _ rfl).back fun T locs X e t s => XS.i2b X.here C.1 rfl (hb C.2.2.1 hd) rfl s
theorem Ok.ineg (C : Cx W Z own nm bc maxL rt) {x : Int32} (hd : decode bc pc = .ok (.ineg, 1)) (q : Nat) (hq : pc + 1 = q) (g : ∀ z, z = -x → Ok W R n0 Q h k n q Ls (.int z :: st)) : Ok W R n0 Q h k n pc Ls (.int x :: st) := by
  subst hq
  exact (g _ rfl).back fun T locs X e t s => XS.ineg X.here C.1 rfl (hb C.2.2.1 hd) rfl s
theorem Ok.lneg (C : Cx W Z own nm bc maxL rt) {x : Int64} (hd : decode bc pc = .ok (.lneg, 1)) (q : Nat) (hq : pc + 1 = q) (g : ∀ z, z = -x → Ok W R n0 Q h k n q Ls (.long z :: st)) : Ok W R n0 Q h k n pc Ls (.long x :: st) := by
  subst hq
  exact (g _ rfl).back fun T locs X e t s => XS.lneg X.here C.1 rfl (hb C.2.2.1 hd) rfl s
theorem Ok.iinc (C : Cx W Z own nm bc maxL rt) {i : Nat} {cst : Int} {x : Int32} (hd : decode bc pc = .ok (.iinc i cst, 3)) (hl : Ls[i]? = some (.val (.int x))) (z : Int32) (hz : Int32.ofInt cst = z) (Ls' : Int32 → List Slot) (hL : ∀ y, Ls.set i (.val (.int y)) = Ls' y) (q : Nat) (hq : pc + 3 = q) (g : ∀ y, y = x + z → Ok W R n0 Q h k n q (Ls' y) st) : Ok W R n0 Q h k n pc Ls st := by
  subst hq hz
  exact (g _ rfl).back fun T locs X e t s => XS.iinc X.here C.1 rfl (hb C.2.2.1 hd) (own_get hl) (own_store hl (One.val rfl) rfl (hL _)) s
theorem Ok.dup (C : Cx W Z own nm bc maxL rt) {x : Value} (hd : decode bc pc = .ok (.dup, 1)) (hc : x.category = 1) (q : Nat) (hq : pc + 1 = q) (g : Ok W R n0 Q h k n q Ls (x :: x :: st)) : Ok W R n0 Q h k n pc Ls (x :: st) := by
  subst hq
  exact g.back fun T locs X e t s => XS.dup X.here C.1 rfl (hb C.2.2.1 hd) rfl hc s
theorem Ok.pop (C : Cx W Z own nm bc maxL rt) {x : Value} (hd : decode bc pc = .ok (.pop, 1)) (hc : x.category = 1) (q : Nat) (hq : pc + 1 = q) (g : Ok W R n0 Q h k n q Ls st) : Ok W R n0 Q h k n pc Ls (x :: st) := by
  subst hq
  exact g.back fun T locs X e t s => XS.pop X.here C.1 rfl (hb C.2.2.1 hd) rfl hc s
theorem Ok.dupX1 (C : Cx W Z own nm bc maxL rt) {x y : Value} (hd : decode bc pc = .ok (.dup_x1, 1)) (hc : x.category = 1) (hc2 : y.category = 1) (q : Nat) (hq : pc + 1 = q) (g : Ok W R n0 Q h k n q Ls (x :: y :: x :: st)) : Ok W R n0 Q h k n pc Ls (x :: y :: st) := by
  subst hq
  exact g.back fun T locs X e t s => XS.dupX1 X.here C.1 rfl (hb C.2.2.1 hd) rfl hc hc2 s
theorem Ok.dup2 (C : Cx W Z own nm bc maxL rt) {x y : Value} (hd : decode bc pc = .ok (.dup2, 1)) (hc : x.category = 1) (hc2 : y.category = 1) (q : Nat) (hq : pc + 1 = q) (g : Ok W R n0 Q h k n q Ls (x :: y :: x :: y :: st)) : Ok W R n0 Q h k n pc Ls (x :: y :: st) := by
  subst hq
  exact g.back fun T locs X e t s => by
    have hd' := hb C.2.2.1 hd
    have hx := C.1
    show Steps _ _ _ (T.setTop { method := W.m, pc := pc, locals := Ls.toArray, stack := x :: y :: st, locked := none }) _
    jvm_step X.here [X.here.top, hx, hd', hc, hc2]
    exact s
theorem Ok.dupX2 (C : Cx W Z own nm bc maxL rt) {x y z : Value} (hd : decode bc pc = .ok (.dup_x2, 1)) (hc : x.category = 1) (hc2 : y.category = 1) (hc3 : z.category = 1) (q : Nat) (hq : pc + 1 = q) (g : Ok W R n0 Q h k n q Ls (x :: y :: z :: x :: st)) : Ok W R n0 Q h k n pc Ls (x :: y :: z :: st) := by
  subst hq
  exact g.back fun T locs X e t s => by
    have hd' := hb C.2.2.1 hd
    have hx := C.1
    show Steps _ _ _ (T.setTop { method := W.m, pc := pc, locals := Ls.toArray, stack := x :: y :: z :: st, locked := none }) _
    jvm_step X.here [X.here.top, hx, hd', hc, hc2, hc3]
    exact s
theorem Ok.goto (C : Cx W Z own nm bc maxL rt) {o : Int} (hd : decode bc pc = .ok (.goto o, 3)) (q : Nat) (hq : (pc : Int) + o = q) (g : Ok W R n0 Q h k n q Ls st) : Ok W R n0 Q h k n pc Ls st :=
  g.back fun T locs X e t s => XS.goto X.here C.1 rfl (pc0 := pc) (pc' := q) rfl (hb C.2.2.1 hd) (by omega) (by omega) s
theorem Ok.icmpB (C : Cx W Z own nm bc maxL rt) {cd : ClassFile.Cond} {x y : Int32} {o : Int} (hd : decode bc pc = .ok (.if_icmp cd o, 3)) (t q : Nat) (ht : (pc : Int) + o = t) (hq : pc + 3 = q) (g1 : if_icmp.holds cd x y = true → Ok W R n0 Q h k n t Ls st) (g2 : if_icmp.holds cd x y = false → Ok W R n0 Q h k n q Ls st) : Ok W R n0 Q h k n pc Ls (.int y :: .int x :: st) := by
  subst hq
  cases hc : if_icmp.holds cd x y
  · exact (g2 hc).back fun T locs X e t s => XS.icmpNo X.here C.1 rfl (hb C.2.2.1 hd) rfl hc s
  · exact (g1 hc).back fun T locs X e t' s => XS.icmpYes X.here C.1 rfl (pc0 := pc) (pc' := t) rfl (hb C.2.2.1 hd) rfl hc (by omega) (by omega) s
theorem Ok.ifB (C : Cx W Z own nm bc maxL rt) {cd : ClassFile.Cond} {x : Int32} {o : Int} (hd : decode bc pc = .ok (.ifCond cd o, 3)) (t q : Nat) (ht : (pc : Int) + o = t) (hq : pc + 3 = q) (g1 : if_icmp.holds cd x 0 = true → Ok W R n0 Q h k n t Ls st) (g2 : if_icmp.holds cd x 0 = false → Ok W R n0 Q h k n q Ls st) : Ok W R n0 Q h k n pc Ls (.int x :: st) := by
  subst hq
  cases hc : if_icmp.holds cd x 0
  · exact (g2 hc).back fun T locs X e t s => XS.ifNo X.here C.1 rfl (hb C.2.2.1 hd) rfl ((if0 _ _).trans hc) s
  · exact (g1 hc).back fun T locs X e t' s => XS.ifYes X.here C.1 rfl (pc0 := pc) (pc' := t) rfl (hb C.2.2.1 hd) rfl ((if0 _ _).trans hc) (by omega) (by omega) s
theorem Ok.lcmp (C : Cx W Z own nm bc maxL rt) {x y : Int64} (hd : decode bc pc = .ok (.lcmp, 1)) (q : Nat) (hq : pc + 1 = q) (g : Ok W R n0 Q h k n q Ls (.int (lcmpW x y) :: st)) : Ok W R n0 Q h k n pc Ls (.long y :: .long x :: st) := by
  subst hq
  exact g.back fun T locs X e t s => XS.lcmp X.here C.1 rfl (hb C.2.2.1 hd) rfl s
theorem h_lt {x y : Int32} : (if_icmp.holds .lt x y = true → x.toInt < y.toInt) ∧ (if_icmp.holds .lt x y = false → y.toInt ≤ x.toInt) := by simp [if_icmp.holds, Int32.lt_iff_toInt_lt]
theorem h_ge {x y : Int32} : (if_icmp.holds .ge x y = true → y.toInt ≤ x.toInt) ∧ (if_icmp.holds .ge x y = false → x.toInt < y.toInt) := by simp [if_icmp.holds, Int32.le_iff_toInt_le]
theorem h_gt {x y : Int32} : (if_icmp.holds .gt x y = true → y.toInt < x.toInt) ∧ (if_icmp.holds .gt x y = false → x.toInt ≤ y.toInt) := by simp [if_icmp.holds, Int32.lt_iff_toInt_lt]
theorem h_le {x y : Int32} : (if_icmp.holds .le x y = true → x.toInt ≤ y.toInt) ∧ (if_icmp.holds .le x y = false → y.toInt < x.toInt) := by simp [if_icmp.holds, Int32.le_iff_toInt_le]
theorem h_eq {x y : Int32} : (if_icmp.holds .eq x y = true → x.toInt = y.toInt) ∧ (if_icmp.holds .eq x y = false → x.toInt ≠ y.toInt) := by simp [if_icmp.holds, Int32.toInt_inj]
theorem h_ne {x y : Int32} : (if_icmp.holds .ne x y = true → x.toInt ≠ y.toInt) ∧ (if_icmp.holds .ne x y = false → x.toInt = y.toInt) := by simp [if_icmp.holds, Int32.toInt_inj]
theorem lw_z (x y : Int64) : (lcmpW x y).toInt = 1 ∧ y.toInt < x.toInt ∨ (lcmpW x y).toInt = 0 ∧ x.toInt = y.toInt ∨ (lcmpW x y).toInt = -1 ∧ x.toInt < y.toInt := by
  obtain ⟨a, b, c⟩ := c_lcmp x y
  by_cases h1 : x.toInt < y.toInt
  · exact Or.inr (Or.inr ⟨a h1, h1⟩)
  · by_cases h2 : x.toInt = y.toInt
    · exact Or.inr (Or.inl ⟨b h2, h2⟩)
    · exact Or.inl ⟨c (by omega), by omega⟩
theorem z32 : (0 : Int32).toInt = 0 := rfl
theorem Ok.icmp_lt (C : Cx W Z own nm bc maxL rt) {x y : Int32} {o : Int} (hd : decode bc pc = .ok (.if_icmp .lt o, 3)) (t q : Nat) (ht : (pc : Int) + o = t) (hq : pc + 3 = q) (g1 : x.toInt < y.toInt → Ok W R n0 Q h k n t Ls st) (g2 : y.toInt ≤ x.toInt → Ok W R n0 Q h k n q Ls st) : Ok W R n0 Q h k n pc Ls (.int y :: .int x :: st) :=
  Ok.icmpB C hd t q ht hq (fun z => g1 (h_lt.1 z)) (fun z => g2 (h_lt.2 z))
theorem Ok.if_lt (C : Cx W Z own nm bc maxL rt) {x : Int32} {o : Int} (hd : decode bc pc = .ok (.ifCond .lt o, 3)) (t q : Nat) (ht : (pc : Int) + o = t) (hq : pc + 3 = q) (g1 : x.toInt < 0 → Ok W R n0 Q h k n t Ls st) (g2 : 0 ≤ x.toInt → Ok W R n0 Q h k n q Ls st) : Ok W R n0 Q h k n pc Ls (.int x :: st) :=
  Ok.ifB C hd t q ht hq (fun z => g1 (h_lt.1 z)) (fun z => g2 (h_lt.2 z))
theorem Ok.lcmp_lt (C : Cx W Z own nm bc maxL rt) {x y : Int64} {o : Int} (hd0 : decode bc pc = .ok (.lcmp, 1)) (hd : decode bc (pc + 1) = .ok (.ifCond .lt o, 3)) (t q : Nat) (ht : ((pc + 1 : Nat) : Int) + o = t) (hq : pc + 1 + 3 = q) (g1 : x.toInt < y.toInt → Ok W R n0 Q h k n t Ls st) (g2 : y.toInt ≤ x.toInt → Ok W R n0 Q h k n q Ls st) : Ok W R n0 Q h k n pc Ls (.long y :: .long x :: st) :=
  Ok.lcmp C hd0 _ rfl (Ok.if_lt C hd t q ht hq (fun z => g1 (by have := lw_z x y; omega)) (fun z => g2 (by have := lw_z x y; omega)))
theorem Ok.icmp_ge (C : Cx W Z own nm bc maxL rt) {x y : Int32} {o : Int} (hd : decode bc pc = .ok (.if_icmp .ge o, 3)) (t q : Nat) (ht : (pc : Int) + o = t) (hq : pc + 3 = q) (g1 : y.toInt ≤ x.toInt → Ok W R n0 Q h k n t Ls st) (g2 : x.toInt < y.toInt → Ok W R n0 Q h k n q Ls st) : Ok W R n0 Q h k n pc Ls (.int y :: .int x :: st) :=
  Ok.icmpB C hd t q ht hq (fun z => g1 (h_ge.1 z)) (fun z => g2 (h_ge.2 z))
theorem Ok.if_ge (C : Cx W Z own nm bc maxL rt) {x : Int32} {o : Int} (hd : decode bc pc = .ok (.ifCond .ge o, 3)) (t q : Nat) (ht : (pc : Int) + o = t) (hq : pc + 3 = q) (g1 : 0 ≤ x.toInt → Ok W R n0 Q h k n t Ls st) (g2 : x.toInt < 0 → Ok W R n0 Q h k n q Ls st) : Ok W R n0 Q h k n pc Ls (.int x :: st) :=
  Ok.ifB C hd t q ht hq (fun z => g1 (h_ge.1 z)) (fun z => g2 (h_ge.2 z))
theorem Ok.lcmp_ge (C : Cx W Z own nm bc maxL rt) {x y : Int64} {o : Int} (hd0 : decode bc pc = .ok (.lcmp, 1)) (hd : decode bc (pc + 1) = .ok (.ifCond .ge o, 3)) (t q : Nat) (ht : ((pc + 1 : Nat) : Int) + o = t) (hq : pc + 1 + 3 = q) (g1 : y.toInt ≤ x.toInt → Ok W R n0 Q h k n t Ls st) (g2 : x.toInt < y.toInt → Ok W R n0 Q h k n q Ls st) : Ok W R n0 Q h k n pc Ls (.long y :: .long x :: st) :=
  Ok.lcmp C hd0 _ rfl (Ok.if_ge C hd t q ht hq (fun z => g1 (by have := lw_z x y; omega)) (fun z => g2 (by have := lw_z x y; omega)))
theorem Ok.icmp_gt (C : Cx W Z own nm bc maxL rt) {x y : Int32} {o : Int} (hd : decode bc pc = .ok (.if_icmp .gt o, 3)) (t q : Nat) (ht : (pc : Int) + o = t) (hq : pc + 3 = q) (g1 : y.toInt < x.toInt → Ok W R n0 Q h k n t Ls st) (g2 : x.toInt ≤ y.toInt → Ok W R n0 Q h k n q Ls st) : Ok W R n0 Q h k n pc Ls (.int y :: .int x :: st) :=
  Ok.icmpB C hd t q ht hq (fun z => g1 (h_gt.1 z)) (fun z => g2 (h_gt.2 z))
theorem Ok.if_gt (C : Cx W Z own nm bc maxL rt) {x : Int32} {o : Int} (hd : decode bc pc = .ok (.ifCond .gt o, 3)) (t q : Nat) (ht : (pc : Int) + o = t) (hq : pc + 3 = q) (g1 : 0 < x.toInt → Ok W R n0 Q h k n t Ls st) (g2 : x.toInt ≤ 0 → Ok W R n0 Q h k n q Ls st) : Ok W R n0 Q h k n pc Ls (.int x :: st) :=
  Ok.ifB C hd t q ht hq (fun z => g1 (h_gt.1 z)) (fun z => g2 (h_gt.2 z))
theorem Ok.lcmp_gt (C : Cx W Z own nm bc maxL rt) {x y : Int64} {o : Int} (hd0 : decode bc pc = .ok (.lcmp, 1)) (hd : decode bc (pc + 1) = .ok (.ifCond .gt o, 3)) (t q : Nat) (ht : ((pc + 1 : Nat) : Int) + o = t) (hq : pc + 1 + 3 = q) (g1 : y.toInt < x.toInt → Ok W R n0 Q h k n t Ls st) (g2 : x.toInt ≤ y.toInt → Ok W R n0 Q h k n q Ls st) : Ok W R n0 Q h k n pc Ls (.long y :: .long x :: st) :=
  Ok.lcmp C hd0 _ rfl (Ok.if_gt C hd t q ht hq (fun z => g1 (by have := lw_z x y; omega)) (fun z => g2 (by have := lw_z x y; omega)))
theorem Ok.icmp_le (C : Cx W Z own nm bc maxL rt) {x y : Int32} {o : Int} (hd : decode bc pc = .ok (.if_icmp .le o, 3)) (t q : Nat) (ht : (pc : Int) + o = t) (hq : pc + 3 = q) (g1 : x.toInt ≤ y.toInt → Ok W R n0 Q h k n t Ls st) (g2 : y.toInt < x.toInt → Ok W R n0 Q h k n q Ls st) : Ok W R n0 Q h k n pc Ls (.int y :: .int x :: st) :=
  Ok.icmpB C hd t q ht hq (fun z => g1 (h_le.1 z)) (fun z => g2 (h_le.2 z))
theorem Ok.if_le (C : Cx W Z own nm bc maxL rt) {x : Int32} {o : Int} (hd : decode bc pc = .ok (.ifCond .le o, 3)) (t q : Nat) (ht : (pc : Int) + o = t) (hq : pc + 3 = q) (g1 : x.toInt ≤ 0 → Ok W R n0 Q h k n t Ls st) (g2 : 0 < x.toInt → Ok W R n0 Q h k n q Ls st) : Ok W R n0 Q h k n pc Ls (.int x :: st) :=
  Ok.ifB C hd t q ht hq (fun z => g1 (h_le.1 z)) (fun z => g2 (h_le.2 z))
theorem Ok.lcmp_le (C : Cx W Z own nm bc maxL rt) {x y : Int64} {o : Int} (hd0 : decode bc pc = .ok (.lcmp, 1)) (hd : decode bc (pc + 1) = .ok (.ifCond .le o, 3)) (t q : Nat) (ht : ((pc + 1 : Nat) : Int) + o = t) (hq : pc + 1 + 3 = q) (g1 : x.toInt ≤ y.toInt → Ok W R n0 Q h k n t Ls st) (g2 : y.toInt < x.toInt → Ok W R n0 Q h k n q Ls st) : Ok W R n0 Q h k n pc Ls (.long y :: .long x :: st) :=
  Ok.lcmp C hd0 _ rfl (Ok.if_le C hd t q ht hq (fun z => g1 (by have := lw_z x y; omega)) (fun z => g2 (by have := lw_z x y; omega)))
theorem Ok.icmp_eq (C : Cx W Z own nm bc maxL rt) {x y : Int32} {o : Int} (hd : decode bc pc = .ok (.if_icmp .eq o, 3)) (t q : Nat) (ht : (pc : Int) + o = t) (hq : pc + 3 = q) (g1 : x.toInt = y.toInt → Ok W R n0 Q h k n t Ls st) (g2 : x.toInt ≠ y.toInt → Ok W R n0 Q h k n q Ls st) : Ok W R n0 Q h k n pc Ls (.int y :: .int x :: st) :=
  Ok.icmpB C hd t q ht hq (fun z => g1 (h_eq.1 z)) (fun z => g2 (h_eq.2 z))
theorem Ok.if_eq (C : Cx W Z own nm bc maxL rt) {x : Int32} {o : Int} (hd : decode bc pc = .ok (.ifCond .eq o, 3)) (t q : Nat) (ht : (pc : Int) + o = t) (hq : pc + 3 = q) (g1 : x.toInt = 0 → Ok W R n0 Q h k n t Ls st) (g2 : x.toInt ≠ 0 → Ok W R n0 Q h k n q Ls st) : Ok W R n0 Q h k n pc Ls (.int x :: st) :=
  Ok.ifB C hd t q ht hq (fun z => g1 (h_eq.1 z)) (fun z => g2 (h_eq.2 z))
theorem Ok.lcmp_eq (C : Cx W Z own nm bc maxL rt) {x y : Int64} {o : Int} (hd0 : decode bc pc = .ok (.lcmp, 1)) (hd : decode bc (pc + 1) = .ok (.ifCond .eq o, 3)) (t q : Nat) (ht : ((pc + 1 : Nat) : Int) + o = t) (hq : pc + 1 + 3 = q) (g1 : x.toInt = y.toInt → Ok W R n0 Q h k n t Ls st) (g2 : x.toInt ≠ y.toInt → Ok W R n0 Q h k n q Ls st) : Ok W R n0 Q h k n pc Ls (.long y :: .long x :: st) :=
  Ok.lcmp C hd0 _ rfl (Ok.if_eq C hd t q ht hq (fun z => g1 (by have := lw_z x y; omega)) (fun z => g2 (by have := lw_z x y; omega)))
theorem Ok.icmp_ne (C : Cx W Z own nm bc maxL rt) {x y : Int32} {o : Int} (hd : decode bc pc = .ok (.if_icmp .ne o, 3)) (t q : Nat) (ht : (pc : Int) + o = t) (hq : pc + 3 = q) (g1 : x.toInt ≠ y.toInt → Ok W R n0 Q h k n t Ls st) (g2 : x.toInt = y.toInt → Ok W R n0 Q h k n q Ls st) : Ok W R n0 Q h k n pc Ls (.int y :: .int x :: st) :=
  Ok.icmpB C hd t q ht hq (fun z => g1 (h_ne.1 z)) (fun z => g2 (h_ne.2 z))
theorem Ok.if_ne (C : Cx W Z own nm bc maxL rt) {x : Int32} {o : Int} (hd : decode bc pc = .ok (.ifCond .ne o, 3)) (t q : Nat) (ht : (pc : Int) + o = t) (hq : pc + 3 = q) (g1 : x.toInt ≠ 0 → Ok W R n0 Q h k n t Ls st) (g2 : x.toInt = 0 → Ok W R n0 Q h k n q Ls st) : Ok W R n0 Q h k n pc Ls (.int x :: st) :=
  Ok.ifB C hd t q ht hq (fun z => g1 (h_ne.1 z)) (fun z => g2 (h_ne.2 z))
theorem Ok.lcmp_ne (C : Cx W Z own nm bc maxL rt) {x y : Int64} {o : Int} (hd0 : decode bc pc = .ok (.lcmp, 1)) (hd : decode bc (pc + 1) = .ok (.ifCond .ne o, 3)) (t q : Nat) (ht : ((pc + 1 : Nat) : Int) + o = t) (hq : pc + 1 + 3 = q) (g1 : x.toInt ≠ y.toInt → Ok W R n0 Q h k n t Ls st) (g2 : x.toInt = y.toInt → Ok W R n0 Q h k n q Ls st) : Ok W R n0 Q h k n pc Ls (.long y :: .long x :: st) :=
  Ok.lcmp C hd0 _ rfl (Ok.if_ne C hd t q ht hq (fun z => g1 (by have := lw_z x y; omega)) (fun z => g2 (by have := lw_z x y; omega)))
/-! the heap -/
theorem Ok.getfield (C : Cx W Z own nm bc maxL rt) {O f d : String} {i : Nat} {a : Addr} {v : Value} (w : (Jvm.Cond.fieldLink own i O f d).before a0 Z = true) (hd : decode bc pc = .ok (.getfield i, 3)) (F : Fld Z h a O f d v) (q : Nat) (hq : pc + 3 = q) (g : Ok W R n0 Q h k n q Ls (v :: st)) : Ok W R n0 Q h k n pc Ls (.ref a :: st) := by
  subst hq
  exact g.move fun T locs X e => getF X C.1 C.2.1 C.2.2.2.2.1 (host := "") (Or.inl w) Via.refl e F (g := mkF W.m pc Ls.toArray (.ref a :: st)) rfl rfl (hb C.2.2.1 hd)
theorem Ok.putfield (C : Cx W Z own nm bc maxL rt) {O f d K : String} {i kk : Nat} {a : Addr} {v old : Value} {ty : FieldType} (w : (Jvm.Cond.fieldLink own i O f d).before a0 Z = true) (hd : decode bc pc = .ok (.putfield i, 3)) (F : Fld Z h a O f d old) (E : Exa Z h a K) (L : (Jvm.Cond.lays K O f d).before a0 Z = true ∨ ((Jvm.Cond.laysFinal K O f d).before a0 Z = true ∧ own = O ∧ nm = "<init>")) (wi : (Jvm.Cond.instantiable K kk).before a0 Z = true)
    (hty : parseFieldDescriptor d = some ty) (hn : narrow ty v = v) (hf : fits ty v = true) (hN : n0 ≤ a) (q : Nat) (hq : pc + 3 = q) (g : ∀ h', Wr h h' a (Jvm.RoadKit.slotOf Z O f d) v → Fld Z h' a O f d v → Ok W R n0 Q h' k n q Ls st) : Ok W R n0 Q h k n pc Ls (v :: .ref a :: st) := fun T locs X e N => by
  subst hq
  obtain ⟨T', h', X', e', Wr', st'⟩ := putF X C.1 C.2.1 C.2.2.2.2.1 (host := "") (Or.inl w) Via.refl e F E (L.imp id fun z => ⟨z.1, z.2.1, C.2.2.2.2.2.2.2.trans z.2.2⟩) wi hty hn hf (g := mkF W.m pc Ls.toArray (v :: .ref a :: st)) rfl rfl (hb C.2.2.1 hd)
  obtain ⟨s₂, o, S, r⟩ := g h' Wr' (F.same Wr') T' _ X' e' (Fr.snoc X' N hN)
  exact ⟨s₂, o, st' _ S, r⟩
theorem Ok.new (C : Cx W Z own nm bc maxL rt) {K : String} {i m : Nat} (w : (Jvm.Cond.classLink own i K).before a0 Z = true) (wi : (Jvm.Cond.instantiable K m).before a0 Z = true) (wz : (Jvm.Cond.initialized K).before a0 Z = true) (hd : decode bc pc = .ok (.new i, 3)) (hc : k + 1 ≤ R.cells) (hl : n + m ≤ R.slots) (q : Nat) (hq : pc + 3 = q)
    (g : ∀ h' a, a = h.size → Ext h h' → Exa Z h' a K → (∀ {O nm d : String} {ty : FieldType}, Laid Z a0 K O nm d → parseFieldDescriptor d = some ty → Fld Z h' a O nm d (defaultValue ty)) → Ok W R n0 Q h' (k + 1) (n + m) q Ls (.ref a :: st)) : Ok W R n0 Q h k n pc Ls st := fun T locs X e N => by
  subst hq
  obtain ⟨T', h', X', e', E', A', D', -, st'⟩ := newO X C.1 C.2.1 C.2.2.2.2.1 w wi wz e (g := mkF W.m pc Ls.toArray st) rfl (hb C.2.2.1 hd) hc hl
  obtain ⟨s₂, o, S, r⟩ := g h' _ rfl E' A' D' T' _ X' e' N
  exact ⟨s₂, o, st' _ S, r⟩
/-- the array at a holds vs -/
def AI (Z : State) (h : Heap) (a : Addr) (ty : FieldType) (vs : List Value) : Prop := ∃ c : Cell, Arr Z h a c ty ∧ c.slots = vs.toArray
theorem AI.lt {a : Addr} {ty : FieldType} {vs : List Value} (F : AI Z h a ty vs) : a < h.size := by obtain ⟨c, A, -⟩ := F; exact A.lt
theorem AI.ext {h' : Heap} {a : Addr} {ty : FieldType} {vs : List Value} (F : AI Z h a ty vs) (E : Ext h h') : AI Z h' a ty vs := by obtain ⟨c, A, r⟩ := F; exact ⟨c, A.ext E, r⟩
theorem AI.other {h' : Heap} {a b : Addr} {sl : Nat} {v : Value} {ty : FieldType} {vs : List Value} (F : AI Z h b ty vs) (W : Wr h h' a sl v) (q : b ≠ a) : AI Z h' b ty vs := by obtain ⟨c, A, r⟩ := F; exact ⟨c, A.other W q, r⟩
theorem AI.keep {h' : Heap} {a : Addr} {ws : List Addr} {ty : FieldType} {vs : List Value} (F : AI Z h a ty vs) (K : Keep h h' ws) (q : a ∉ ws) : AI Z h' a ty vs := by obtain ⟨c, A, r⟩ := F; exact ⟨c, ⟨K.2.1 a c A.1 q, A.2⟩, r⟩
theorem AI.same {h' : Heap} {a : Addr} {i : Nat} {v : Value} {ty : FieldType} {vs : List Value} (F : AI Z h a ty vs) (W : Wr h h' a i v) : AI Z h' a ty (vs.set i v) := by
  obtain ⟨c, A, r⟩ := F; exact ⟨_, A.same W, by simp [Cell.setSlot, r]⟩
theorem ne_AI {a b : Addr} {K : String} {kk : Nat} {ty : FieldType} {vs : List Value} (E : Exa Z h a K) (wi : (Jvm.Cond.instantiable K kk).before a0 Z = true) (F : AI Z h b ty vs) : a ≠ b := by obtain ⟨c, A, -⟩ := F; exact ne_arr E wi A
theorem own_nat {j : Int32} {i : Nat} (hj : j.toInt = i) : j.toNatClampNeg = i ∧ ¬ j < 0 := by
  have h2 : ¬ j < 0 := by rw [Int32.lt_iff_toInt_lt, z32]; omega
  have h3 := nat_of h2
  exact ⟨by omega, h2⟩
theorem own_in {c : Cell} {j : Int32} {i : Nat} {vs : List Value} (hj : j.toInt = i) (hc : c.slots = vs.toArray) (hi : i < vs.length) : ¬ (j < 0 ∨ c.slots.size ≤ j.toNatClampNeg) := by
  obtain ⟨h1, h2⟩ := own_nat hj
  rintro (h3 | h3)
  · exact h2 h3
  · rw [hc, h1] at h3; simp at h3; omega
theorem own_at {c : Cell} {j : Int32} {i : Nat} {vs : List Value} {v : Value} (hj : j.toInt = i) (hc : c.slots = vs.toArray) (hv : vs[i]? = some v) : c.slots[j.toNatClampNeg]? = some v := by
  rw [(own_nat hj).1, hc]; simpa using hv
theorem own_bd {i : Nat} {vs : List Value} {v : Value} (hv : vs[i]? = some v) : i < vs.length := (List.getElem?_eq_some_iff.mp hv).1
theorem Ok.newarray (C : Cx W Z own nm bc maxL rt) {aty : ArrayType} {ty : FieldType} {z : Int32} (w : (Jvm.Cond.arrayClass ty).before a0 Z = true) (hd : decode bc pc = .ok (.newarray aty, 2)) (hty : newarray.typeOf aty = ty) (i : Nat) (hz : z.toInt = i) (hb' : i * 8 ≤ 536870912) (cap : Nat) (hcap : i ≤ cap) (hb2 : cap * 8 ≤ 536870912) (hc : k + 1 ≤ R.cells) (hl : n + cap ≤ R.slots) (q : Nat) (hq : pc + 2 = q)
    (g : ∀ h' a, a = h.size → Ext h h' → AI Z h' a ty (List.replicate i (defaultValue ty)) → Ok W R n0 Q h' (k + 1) (n + cap) q Ls (.ref a :: st)) : Ok W R n0 Q h k n pc Ls (.int z :: st) := fun T locs X e N => by
  subst hq hty
  obtain ⟨z1, z2⟩ := own_nat hz
  obtain ⟨T', h', cA, X', e', E', A', st'⟩ := newP X C.1 C.2.1 w e (g := mkF W.m pc Ls.toArray (.int z :: st)) rfl (hb C.2.2.1 hd) rfl z2 (cap := cap) (by omega) hb2 hc hl
  obtain ⟨s₂, o, S, r⟩ := g h' _ rfl E' ⟨_, A', by simp [newA, z1]⟩ T' _ X' e' N
  exact ⟨s₂, o, st' _ S, r⟩
theorem Ok.arraylength (C : Cx W Z own nm bc maxL rt) {a : Addr} {ty : FieldType} {vs : List Value} (hd : decode bc pc = .ok (.arraylength, 1)) (F : AI Z h a ty vs) (z : Int32) (hz : vs.length.toInt32 = z) (q : Nat) (hq : pc + 1 = q) (g : Ok W R n0 Q h k n q Ls (.int z :: st)) : Ok W R n0 Q h k n pc Ls (.ref a :: st) := by
  subst hq hz
  obtain ⟨c, A, hc⟩ := F
  have hs : c.slots.size = vs.length := by rw [hc]; simp
  rw [← hs] at g
  exact g.back fun T locs X e t s => X.arraylength C.1 (by rw [e]; exact A.1) (State.isArrayOf_alike C.2.1.alike A.2.1) (g := mkF W.m pc Ls.toArray (.ref a :: st)) rfl rfl (hb C.2.2.1 hd) t s
theorem Ok.iaload (C : Cx W Z own nm bc maxL rt) {a : Addr} {j : Int32} {v : Value} {vs : List Value} (hd : decode bc pc = .ok (.iaload, 1)) (F : AI Z h a .int vs) (i : Nat) (hj : j.toInt = i) (hv : vs[i]? = some v) (q : Nat) (hq : pc + 1 = q) (g : Ok W R n0 Q h k n q Ls (v :: st)) : Ok W R n0 Q h k n pc Ls (.int j :: .ref a :: st) := by
  subst hq
  obtain ⟨c, A, hc⟩ := F
  exact g.back fun T locs X e t s => X.iaload C.1 (j := j) (v := v) (by rw [e]; exact A.1) (State.isArrayOf_alike C.2.1.alike A.2.1) A.2.2 (own_in hj hc (own_bd hv)) (own_at hj hc hv) (g := mkF W.m pc Ls.toArray (.int j :: .ref a :: st)) rfl rfl (hb C.2.2.1 hd) t s
theorem Ok.laload (C : Cx W Z own nm bc maxL rt) {a : Addr} {j : Int32} {v : Value} {vs : List Value} (hd : decode bc pc = .ok (.laload, 1)) (F : AI Z h a .long vs) (i : Nat) (hj : j.toInt = i) (hv : vs[i]? = some v) (q : Nat) (hq : pc + 1 = q) (g : Ok W R n0 Q h k n q Ls (v :: st)) : Ok W R n0 Q h k n pc Ls (.int j :: .ref a :: st) := by
  subst hq
  obtain ⟨c, A, hc⟩ := F
  exact g.back fun T locs X e t s => X.laload C.1 (j := j) (v := v) (by rw [e]; exact A.1) (State.isArrayOf_alike C.2.1.alike A.2.1) A.2.2 (own_in hj hc (own_bd hv)) (own_at hj hc hv) (g := mkF W.m pc Ls.toArray (.int j :: .ref a :: st)) rfl rfl (hb C.2.2.1 hd) t s
theorem Ok.baload (C : Cx W Z own nm bc maxL rt) {a : Addr} {j : Int32} {v : Value} {vs : List Value} (hd : decode bc pc = .ok (.baload, 1)) (F : AI Z h a .byte vs) (i : Nat) (hj : j.toInt = i) (hv : vs[i]? = some v) (q : Nat) (hq : pc + 1 = q) (g : Ok W R n0 Q h k n q Ls (v :: st)) : Ok W R n0 Q h k n pc Ls (.int j :: .ref a :: st) := by
  subst hq
  obtain ⟨c, A, hc⟩ := F
  exact g.back fun T locs X e t s => X.baloadBytes C.1 (j := j) (v := v) (by rw [e]; exact A.1) (State.isArrayOf_alike C.2.1.alike A.2.1) A.2.2 (own_in hj hc (own_bd hv)) (own_at hj hc hv) (g := mkF W.m pc Ls.toArray (.int j :: .ref a :: st)) rfl rfl (hb C.2.2.1 hd) t s
theorem Ok.zaload (C : Cx W Z own nm bc maxL rt) {a : Addr} {j : Int32} {v : Value} {vs : List Value} (hd : decode bc pc = .ok (.baload, 1)) (F : AI Z h a .boolean vs) (i : Nat) (hj : j.toInt = i) (hv : vs[i]? = some v) (q : Nat) (hq : pc + 1 = q) (g : Ok W R n0 Q h k n q Ls (v :: st)) : Ok W R n0 Q h k n pc Ls (.int j :: .ref a :: st) := by
  subst hq
  obtain ⟨c, A, hc⟩ := F
  exact g.back fun T locs X e t s => X.baloadBooleans C.1 (j := j) (v := v) (by rw [e]; exact A.1) (State.isArrayOf_alike C.2.1.alike A.2.1) A.2.2 (own_in hj hc (own_bd hv)) (own_at hj hc hv) (g := mkF W.m pc Ls.toArray (.int j :: .ref a :: st)) rfl rfl (hb C.2.2.1 hd) t s
theorem Ok.iastore (C : Cx W Z own nm bc maxL rt) {a : Addr} {j : Int32} {x : Int32} {vs : List Value} (hd : decode bc pc = .ok (.iastore, 1)) (F : AI Z h a .int vs) (i : Nat) (hj : j.toInt = i) (hi : i < vs.length) (hN : n0 ≤ a) (q : Nat) (hq : pc + 1 = q) (g : ∀ h', Wr h h' a i (.int x) → AI Z h' a .int (vs.set i (.int x)) → Ok W R n0 Q h' k n q Ls st) : Ok W R n0 Q h k n pc Ls (.int x :: .int j :: .ref a :: st) := fun T locs X e N => by
  subst hq
  obtain ⟨c, A, hc⟩ := F
  obtain ⟨T', h', X', e', Wr', st'⟩ := stI X C.1 C.2.1 e A (j := j) (x := x) (own_in hj hc hi) (g := mkF W.m pc Ls.toArray (.int x :: .int j :: .ref a :: st)) rfl rfl (hb C.2.2.1 hd)
  have N' := Fr.snoc X' N hN
  rw [(own_nat hj).1] at Wr'
  obtain ⟨s₂, o, S, r⟩ := g h' Wr' (AI.same ⟨c, A, hc⟩ Wr') T' _ X' e' N'
  exact ⟨s₂, o, st' _ S, r⟩
theorem Ok.lastore (C : Cx W Z own nm bc maxL rt) {a : Addr} {j : Int32} {x : Int64} {vs : List Value} (hd : decode bc pc = .ok (.lastore, 1)) (F : AI Z h a .long vs) (i : Nat) (hj : j.toInt = i) (hi : i < vs.length) (hN : n0 ≤ a) (q : Nat) (hq : pc + 1 = q) (g : ∀ h', Wr h h' a i (.long x) → AI Z h' a .long (vs.set i (.long x)) → Ok W R n0 Q h' k n q Ls st) : Ok W R n0 Q h k n pc Ls (.long x :: .int j :: .ref a :: st) := fun T locs X e N => by
  subst hq
  obtain ⟨c, A, hc⟩ := F
  obtain ⟨T', h', X', e', Wr', st'⟩ := stJ X C.1 C.2.1 e A (j := j) (x := x) (own_in hj hc hi) (g := mkF W.m pc Ls.toArray (.long x :: .int j :: .ref a :: st)) rfl rfl (hb C.2.2.1 hd)
  have N' := Fr.snoc X' N hN
  rw [(own_nat hj).1] at Wr'
  obtain ⟨s₂, o, S, r⟩ := g h' Wr' (AI.same ⟨c, A, hc⟩ Wr') T' _ X' e' N'
  exact ⟨s₂, o, st' _ S, r⟩
theorem Ok.bastore (C : Cx W Z own nm bc maxL rt) {a : Addr} {j : Int32} {x : Int32} {vs : List Value} (hd : decode bc pc = .ok (.bastore, 1)) (F : AI Z h a .byte vs) (i : Nat) (hj : j.toInt = i) (hi : i < vs.length) (hN : n0 ≤ a) (q : Nat) (hq : pc + 1 = q) (g : ∀ h', Wr h h' a i (.int (x.toInt8.toInt32)) → AI Z h' a .byte (vs.set i (.int (x.toInt8.toInt32))) → Ok W R n0 Q h' k n q Ls st) : Ok W R n0 Q h k n pc Ls (.int x :: .int j :: .ref a :: st) := fun T locs X e N => by
  subst hq
  obtain ⟨c, A, hc⟩ := F
  obtain ⟨T', h', X', e', Wr', st'⟩ := stB X C.1 C.2.1 e A (j := j) (x := x) (own_in hj hc hi) (g := mkF W.m pc Ls.toArray (.int x :: .int j :: .ref a :: st)) rfl rfl (hb C.2.2.1 hd)
  have N' := Fr.snoc X' N hN
  rw [(own_nat hj).1] at Wr'
  obtain ⟨s₂, o, S, r⟩ := g h' Wr' (AI.same ⟨c, A, hc⟩ Wr') T' _ X' e' N'
  exact ⟨s₂, o, st' _ S, r⟩
theorem Ok.zastore (C : Cx W Z own nm bc maxL rt) {a : Addr} {j : Int32} {x : Int32} {vs : List Value} (hd : decode bc pc = .ok (.bastore, 1)) (F : AI Z h a .boolean vs) (i : Nat) (hj : j.toInt = i) (hi : i < vs.length) (hN : n0 ≤ a) (q : Nat) (hq : pc + 1 = q) (g : ∀ h', Wr h h' a i (.int (x &&& 1)) → AI Z h' a .boolean (vs.set i (.int (x &&& 1))) → Ok W R n0 Q h' k n q Ls st) : Ok W R n0 Q h k n pc Ls (.int x :: .int j :: .ref a :: st) := fun T locs X e N => by
  subst hq
  obtain ⟨c, A, hc⟩ := F
  obtain ⟨T', h', X', e', Wr', st'⟩ := stZ X C.1 C.2.1 e A (j := j) (x := x) (own_in hj hc hi) (g := mkF W.m pc Ls.toArray (.int x :: .int j :: .ref a :: st)) rfl rfl (hb C.2.2.1 hd)
  have N' := Fr.snoc X' N hN
  rw [(own_nat hj).1] at Wr'
  obtain ⟨s₂, o, S, r⟩ := g h' Wr' (AI.same ⟨c, A, hc⟩ Wr') T' _ X' e' N'
  exact ⟨s₂, o, st' _ S, r⟩
/-! the end -/
theorem Ok.fin {T : State} {locs : List Loc} {v : Option Value} (C : Cx W Z own nm bc maxL rt) (hv : rt = none → v = none) (X : Stand W.p W.l W.e R W.s W.m W.args W.below W.meth W.c T locs k n) (e : T.heap = h) (N : Fr n0 locs) (hk : k ≤ R.cells) (hn : n ≤ R.slots) (hQ : Q v h) {f : State}
    (hst : ∀ fs, (∀ (f : JFrame) (acts : List Action), f.method = W.m → f.locked = none → f.entered = [] → (doReturn W.e (T.setTop f) acts v).1 = T.setFrames fs) → Steps W.p.tables W.e W.below f (T.setFrames fs)) :
    ∃ s₂ o, Steps W.p.tables W.e W.below f s₂ ∧ s₂.status = .running ∧ Ended s₂ W.below o ∧ ∃ v L, o = .returned v ∧ (Q v s₂.heap ∧ Fr n0 L) ∧ FrameEnd W.s o s₂ L R.cells R.slots := by
  obtain ⟨fs, hr, hrun, hended, hW, hsame⟩ := X.leave (v := v) (fun z => hv (C.2.2.2.2.2.1.symm.trans z)) C.2.2.2.2.2.2.1
  have hQ' : Q v (T.setFrames fs).heap := by show Q v T.heap; rw [e]; exact hQ
  exact ⟨_, _, hst fs hr, hrun, hended, _, _, rfl, ⟨hQ', N⟩, ⟨_, rfl⟩, hW, hsame.mono hk hn⟩
theorem Ok.ireturn (C : Cx W Z own nm bc maxL (some .int)) {x : Int32} (hd : decode bc pc = .ok (.ireturn, 1)) (hk : k ≤ R.cells) (hn : n ≤ R.slots) (hQ : Q (some (.int x)) h) : Ok W R n0 Q h k n pc Ls (.int x :: st) := fun T locs X e N =>
  Ok.fin C (fun z => by cases z) X e N hk hn hQ fun fs hr => retOut X C.1 C.2.2.2.2.2.1 rfl (Or.inl ⟨rfl, Or.inl rfl, _, rfl⟩) (hb C.2.2.1 hd) hr
theorem Ok.zreturn (C : Cx W Z own nm bc maxL (some .boolean)) {x : Int32} (hd : decode bc pc = .ok (.ireturn, 1)) (hk : k ≤ R.cells) (hn : n ≤ R.slots) (hQ : Q (some (.int (x &&& 1))) h) : Ok W R n0 Q h k n pc Ls (.int x :: st) := fun T locs X e N =>
  Ok.fin C (fun z => by cases z) X e N hk hn hQ fun fs hr => retN X C.1 (t := .boolean) C.2.2.2.2.2.1 (Or.inl rfl) (hb C.2.2.1 hd) hr
theorem Ok.lreturn (C : Cx W Z own nm bc maxL (some .long)) {x : Int64} (hd : decode bc pc = .ok (.lreturn, 1)) (hk : k ≤ R.cells) (hn : n ≤ R.slots) (hQ : Q (some (.long x)) h) : Ok W R n0 Q h k n pc Ls (.long x :: st) := fun T locs X e N =>
  Ok.fin C (fun z => by cases z) X e N hk hn hQ fun fs hr => retOut X C.1 C.2.2.2.2.2.1 rfl (Or.inr (Or.inl ⟨rfl, rfl, _, rfl⟩)) (hb C.2.2.1 hd) hr
theorem Ok.vreturn (C : Cx W Z own nm bc maxL none) (hd : decode bc pc = .ok (.return_, 1)) (hk : k ≤ R.cells) (hn : n ≤ R.slots) (hQ : Q none h) : Ok W R n0 Q h k n pc Ls [] := fun T locs X e N =>
  Ok.fin C (fun _ => rfl) X e N hk hn hQ fun fs hr => X.returnOut C.1 C.2.2.2.2.2.1 (hb C.2.2.1 hd) hr
/-! calls -/
/-- the method y, called with as' over the heap h, returns with Q -/
def Does (l : Launch) (Z : State) (y : MethodName) (bytes : ByteArray) (mL : Nat) (rt : Option FieldType) (rm : Room) (as' : Array Value) (h : Heap) (n0 : Nat) (Q : Option Value → Heap → Prop) : Prop :=
  MetFree l y (head1 [Jvm.Cond.code y bytes mL rt] rm) (fun a U => a = as' ∧ Z.Warmed39 U.vm ∧ U.heap = h) (fun _ _ _ _ _ => True) (fun _ U o U' => ∃ v L, o = .returned v ∧ (Q v U'.heap ∧ Fr n0 L) ∧ FrameEnd U o U' L rm.cells rm.slots)
def DoesW (l : Launch) (Z : State) (y : MethodName) (bytes : ByteArray) (mL : Nat) (rt : Option FieldType) (rm : Room) (ws : List Jvm.Cond) (as' : Array Value) (h : Heap) (n0 : Nat) (Q : Option Value → Heap → Prop) : Prop :=
  MetFree l y (head1 (Jvm.Cond.code y bytes mL rt :: ws) rm) (fun a U => a = as' ∧ Z.Warmed39 U.vm ∧ U.heap = h) (fun _ _ _ _ _ => True) (fun _ U o U' => ∃ v L, o = .returned v ∧ (Q v U'.heap ∧ Fr n0 L) ∧ FrameEnd U o U' L rm.cells rm.slots)
theorem DoesW.of_body {l : Launch} {y : MethodName} {bytes : ByteArray} {mL : Nat} {rm : Room} {ws : List Jvm.Cond} {as' : Array Value} (hpl : plainFor y = true) (Ls0 : List Slot) (ef : ∀ m, entryFrame m as' mL = mkF m 0 Ls0.toArray [])
    (g : ∀ W : Wd, W.l = l → Cx W Z y.cls y.name bytes mL rt → Ok W rm n0 Q h 0 0 0 Ls0 []) : DoesW l Z y bytes mL rt rm ws as' h n0 Q := by
  unfold DoesW
  refine MetFree.of_bodySF hpl hisR ?_
  intro p e s m args below meth c s₁ Bd hml0 hP hK
  obtain ⟨rfl, hZ, hh⟩ := hP
  have X0 : Stand p l e rm s m args below meth c s₁ [] 0 0 := Stand.of_body Bd
  have e0 : s₁.heap = h := by rw [← hh, Bd.state]; rfl
  obtain ⟨s₂, o, S, r⟩ := g (p, l, e, s, m, args, below, meth, c) rfl ⟨Bd.exec, hZ, Bd.bytes, hml0, findClass_of_methodNamed Bd.named, Bd.returns, Bd.notSynchronized, (name_of_methodNamed Bd.named Bd.method).1⟩ s₁ [] X0 e0 (Fr.nil n0)
  exact ⟨s₂, o, castTop (ef m) S, r⟩
theorem Does.of_body {l : Launch} {y : MethodName} {bytes : ByteArray} {mL : Nat} {rm : Room} {as' : Array Value} (hpl : plainFor y = true) (Ls0 : List Slot) (ef : ∀ m, entryFrame m as' mL = mkF m 0 Ls0.toArray [])
    (g : ∀ W : Wd, W.l = l → Cx W Z y.cls y.name bytes mL rt → Ok W rm n0 Q h 0 0 0 Ls0 []) : Does l Z y bytes mL rt rm as' h n0 Q := DoesW.of_body (ws := []) hpl Ls0 ef g
theorem own_after {v : Option Value} {q : Nat} {rest : List Value} {rm : Room} {T : State} {locs L : List Loc} {h' : Heap} (g : Ok W R n0 Q h' (k + rm.cells) (n + rm.slots) q Ls (v.toList ++ rest)) (N : Fr n0 locs) (N' : Fr n0 L) (X : Stand W.p W.l W.e R W.s W.m W.args W.below W.meth W.c T (locs ++ L) (k + rm.cells) (n + rm.slots)) (e : T.heap = h') :
    ∃ s₂ o, Steps W.p.tables W.e W.below (T.setTop (mkF W.m q Ls.toArray (v.toList ++ rest))) s₂ ∧ s₂.status = .running ∧ Ended s₂ W.below o ∧ ∃ v L, o = .returned v ∧ (Q v s₂.heap ∧ Fr n0 L) ∧ FrameEnd W.s o s₂ L R.cells R.slots := g T _ X e (N.app N')
theorem Ok.callStatic (C : Cx W Z own nm bc maxL rt) {i : Nat} {y : MethodName} {bytes : ByteArray} {mL : Nat} {rt' : Option FieldType} {rm : Room} {ps : List FieldType} {Q' : Option Value → Heap → Prop} (argsL rest : List Value) (hs : st = argsL.reverse ++ rest)
    (w1 : (Jvm.Cond.methodLink own i y).before a0 Z = true) (w2 : (Jvm.Cond.static y).before a0 Z = true) (w3 : (Jvm.Cond.initialized y.cls).before a0 Z = true) (w4 : (Jvm.Cond.code y bytes mL rt').before a0 Z = true) (hd : decode bc pc = .ok (.invokestatic i, 3))
    (hm : y.cls ≠ "java/lang/invoke/MethodHandle" ∧ y.cls ≠ "java/lang/invoke/VarHandle") (pd : parseMethodDescriptor y.desc = some ⟨ps, rt'⟩) (hlen : argsL.length = ps.length) (hsz : Ls.length = maxL)
    (D : Does W.l Z y bytes mL rt' rm argsL.toArray h n0 Q') (hf : rm.frames + 1 ≤ R.frames) (wt : Nat) (hwt : (rest.map fun v => v.category).sum = wt) (hl : wt + (mL + 11) + rm.locals ≤ R.locals) (hc : k + rm.cells ≤ R.cells) (hsl : n + rm.slots ≤ R.slots) (q : Nat) (hq : pc + 3 = q)
    (g : ∀ v h', Q' v h' → Ok W R n0 Q h' (k + rm.cells) (n + rm.slots) q Ls (v.toList ++ rest)) : Ok W R n0 Q h k n pc Ls st := fun T locs X e N => by
  subst hq hs
  obtain ⟨v, vm1, ⟨T', L', k', n'⟩, -, X', ⟨Lc, hQ, l1, y1, z1⟩, st'⟩ := Jvm.LawKit.callS X C.1 (y := y) C.2.2.2.2.1 (mvT C.2.1 w1) (mvT C.2.1 w2) (mvT C.2.1 w3) (mvT C.2.1 w4) hm (backOf (W := wt) (R := R) (Q := fun v h L => Q' v h ∧ Fr n0 L) D C.2.1 w4 w3 hf hl) (g := mkF W.m pc Ls.toArray (argsL.reverse ++ rest)) rfl (by rw [C.2.2.2.1, ← hsz]; simp) (argsL := argsL) (rest := rest) (lenOf pd hlen) rfl (by show 2 * 0 + _ ≤ _; omega) (hb C.2.2.1 hd) (fun _ _ => ⟨rfl, e, hc, hsl⟩)
  dsimp only [Pt.U, Pt.locs, Pt.cells, Pt.slots] at X' l1 y1 z1 st' hQ
  subst l1 y1 z1
  obtain ⟨s₂, o, S, r⟩ := own_after (g v _ hQ.1) N hQ.2 X' rfl
  exact ⟨s₂, o, st' _ S, r⟩
theorem Ok.callInit (C : Cx W Z own nm bc maxL rt) {i : Nat} {y : MethodName} {bytes : ByteArray} {mL : Nat} {rm : Room} {ps : List FieldType} {Q' : Option Value → Heap → Prop} {a : Addr} (argsL rest : List Value) (hs : st = argsL.reverse ++ .ref a :: rest) (hy1 : y.name = "<init>")
    (w1 : (Jvm.Cond.methodLink own i y).before a0 Z = true) (w2 : (Jvm.Cond.instanceMethod y).before a0 Z = true) (w3 : (Jvm.Cond.initialized y.cls).before a0 Z = true) (w4 : (Jvm.Cond.code y bytes mL none).before a0 Z = true) (hd : decode bc pc = .ok (.invokespecial i, 3))
    (hm : y.cls ≠ "java/lang/invoke/MethodHandle" ∧ y.cls ≠ "java/lang/invoke/VarHandle") (pd : parseMethodDescriptor y.desc = some ⟨ps, none⟩) (hlen : argsL.length = ps.length) (hsz : Ls.length = maxL)
    (D : Does W.l Z y bytes mL none rm (.ref a :: argsL).toArray h n0 Q') (hf : rm.frames + 1 ≤ R.frames) (wt : Nat) (hwt : (rest.map fun v => v.category).sum = wt) (hl : wt + (mL + 11) + rm.locals ≤ R.locals) (hc : k + rm.cells ≤ R.cells) (hsl : n + rm.slots ≤ R.slots) (q : Nat) (hq : pc + 3 = q)
    (g : ∀ v h', Q' v h' → Ok W R n0 Q h' (k + rm.cells) (n + rm.slots) q Ls (v.toList ++ rest)) : Ok W R n0 Q h k n pc Ls st := fun T locs X e N => by
  subst hq hs
  obtain ⟨v, vm1, ⟨T', L', k', n'⟩, -, X', ⟨Lc, hQ, l1, y1, z1⟩, st'⟩ := X.specialBack C.1 (y := y) hy1 C.2.2.2.2.1 (mvT C.2.1 w1) (mvT C.2.1 w2) (mvT C.2.1 w4) hm (backOf (W := wt) (R := R) (Q := fun v h L => Q' v h ∧ Fr n0 L) D C.2.1 w4 w3 hf hl) (g := mkF W.m pc Ls.toArray (argsL.reverse ++ .ref a :: rest)) rfl (by rw [C.2.2.2.1, ← hsz]; simp) (Steps.refl _) (a := a) (argsL := argsL) (rest := rest) (lenOf pd hlen) rfl (by show 2 * 0 + _ ≤ _; omega) (hb C.2.2.1 hd) (fun _ _ => ⟨rfl, e, hc, hsl⟩)
  dsimp only [Pt.U, Pt.locs, Pt.cells, Pt.slots] at X' l1 y1 z1 st' hQ
  subst l1 y1 z1
  obtain ⟨s₂, o, S, r⟩ := own_after (g v _ hQ.1) N hQ.2 X' rfl
  exact ⟨s₂, o, st'.trans S, r⟩
theorem Ok.callVirtual (C : Cx W Z own nm bc maxL rt) {i : Nat} {y : MethodName} {bytes : ByteArray} {mL : Nat} {rt' : Option FieldType} {rm : Room} {ps : List FieldType} {Q' : Option Value → Heap → Prop} {a : Addr} (argsL rest : List Value) (hs : st = argsL.reverse ++ .ref a :: rest)
    (w1 : (Jvm.Cond.methodLink own i y).before a0 Z = true) (w2 : (Jvm.Cond.declares y).before a0 Z = true) (w5 : (Jvm.Cond.selects y.cls y y).before a0 Z = true) (w6 : (Jvm.Cond.instanceMethod y).before a0 Z = true) (w3 : (Jvm.Cond.initialized y.cls).before a0 Z = true) (w4 : (Jvm.Cond.code y bytes mL rt').before a0 Z = true) (hd : decode bc pc = .ok (.invokevirtual i, 3))
    (hm : y.cls ≠ "java/lang/invoke/MethodHandle" ∧ y.cls ≠ "java/lang/invoke/VarHandle") (pd : parseMethodDescriptor y.desc = some ⟨ps, rt'⟩) (hlen : argsL.length = ps.length) (hsz : Ls.length = maxL) (E : Exa Z h a y.cls)
    (D : Does W.l Z y bytes mL rt' rm (.ref a :: argsL).toArray h n0 Q') (hf : rm.frames + 1 ≤ R.frames) (wt : Nat) (hwt : (rest.map fun v => v.category).sum = wt) (hl : wt + (mL + 11) + rm.locals ≤ R.locals) (hc : k + rm.cells ≤ R.cells) (hsl : n + rm.slots ≤ R.slots) (q : Nat) (hq : pc + 3 = q)
    (g : ∀ v h', Q' v h' → Ok W R n0 Q h' (k + rm.cells) (n + rm.slots) q Ls (v.toList ++ rest)) : Ok W R n0 Q h k n pc Ls st := fun T locs X e N => by
  subst hq hs
  obtain ⟨cq, kq, qa, qb, qc⟩ := isOf (T := T) C.2.1 e E
  obtain ⟨v, vm1, ⟨T', L', k', n'⟩, -, X', ⟨Lc, hQ, l1, y1, z1⟩, st'⟩ := X.virtualBack C.1 (y := y) (z := y) C.2.2.2.2.1 (mvT C.2.1 w1) (mvT C.2.1 w2) (notFace_of_selects (args := #[]) (mvT C.2.1 w5)) (mvT C.2.1 w5) (mvT C.2.1 w6) hm (backOf (W := wt) (R := R) (Q := fun v h L => Q' v h ∧ Fr n0 L) D C.2.1 w4 w3 hf hl) qa qc (g := mkF W.m pc Ls.toArray (argsL.reverse ++ .ref a :: rest)) rfl (by rw [C.2.2.2.1, ← hsz]; simp) (Steps.refl _) (argsL := argsL) (rest := rest) (lenOf pd hlen) rfl (by show 2 * 0 + _ ≤ _; omega) (hb C.2.2.1 hd) (fun _ _ => ⟨rfl, e, hc, hsl⟩)
  dsimp only [Pt.U, Pt.locs, Pt.cells, Pt.slots] at X' l1 y1 z1 st' hQ
  subst l1 y1 z1
  obtain ⟨s₂, o, S, r⟩ := own_after (g v _ hQ.1) N hQ.2 X' rfl
  exact ⟨s₂, o, st'.trans S, r⟩
theorem own_selects {a : Array Value} {s : State} {y0 y : MethodName} (hs : (Jvm.Cond.selects y0.cls y0 y0).before a s = true) (hi : (Jvm.Cond.instanceMethod y).before a s = true) (hp : (Jvm.Cond.privateMethod y).before a s = true) (hc : y.cls = y0.cls) (hm : y.cls ≠ "java/lang/invoke/MethodHandle" ∧ y.cls ≠ "java/lang/invoke/VarHandle") : (Jvm.Cond.selects y.cls y y).before a s = true := by
  obtain ⟨c, r, m, h1, h2, h3, h4, kk, h5, h6⟩ := Cond.selects_spec hs
  obtain ⟨mk, methM, hn, hmm, -, -⟩ := Cond.instanceMethod_spec hi
  have e1 : s.vm.findClass y0.cls = some m.cls := findClass_of_methodNamed h3
  have e2 : s.vm.findClass y.cls = some mk.cls := findClass_of_methodNamed hn
  have e3 : mk.cls = m.cls := by rw [hc, e1] at e2; exact (Option.some.inj e2).symm
  have hf := State.methodFound?_of_named hn hm
  have hsel : selectMethod {} s.vm mk.cls mk = .method mk := selectMethod_private hmm (Cond.privateMethod_at hp mk methM hn hmm)
  have hk : s.vm.classes[mk.cls]? = some kk := by rw [e3]; exact h5
  simp [Cond.before, Cond.holds, Cond.value, e2, hf, hn, hsel, hk, h6]
theorem Ok.callPrivate (C : Cx W Z own nm bc maxL rt) {i : Nat} {y y0 : MethodName} {bytes : ByteArray} {mL : Nat} {rt' : Option FieldType} {rm : Room} {ps : List FieldType} {Q' : Option Value → Heap → Prop} {a : Addr} (argsL rest : List Value) (hs : st = argsL.reverse ++ .ref a :: rest)
    (w1 : (Jvm.Cond.methodLink own i y).before a0 Z = true) (w6 : (Jvm.Cond.instanceMethod y).before a0 Z = true) (w7 : (Jvm.Cond.privateMethod y).before a0 Z = true) (w5 : (Jvm.Cond.selects y0.cls y0 y0).before a0 Z = true) (hcc : y.cls = y0.cls) (w3 : (Jvm.Cond.initialized y.cls).before a0 Z = true) (w4 : (Jvm.Cond.code y bytes mL rt').before a0 Z = true) (hd : decode bc pc = .ok (.invokevirtual i, 3))
    (hm : y.cls ≠ "java/lang/invoke/MethodHandle" ∧ y.cls ≠ "java/lang/invoke/VarHandle") (pd : parseMethodDescriptor y.desc = some ⟨ps, rt'⟩) (hlen : argsL.length = ps.length) (hsz : Ls.length = maxL) (E : Exa Z h a y.cls)
    (D : Does W.l Z y bytes mL rt' rm (.ref a :: argsL).toArray h n0 Q') (hf : rm.frames + 1 ≤ R.frames) (wt : Nat) (hwt : (rest.map fun v => v.category).sum = wt) (hl : wt + (mL + 11) + rm.locals ≤ R.locals) (hc : k + rm.cells ≤ R.cells) (hsl : n + rm.slots ≤ R.slots) (q : Nat) (hq : pc + 3 = q)
    (g : ∀ v h', Q' v h' → Ok W R n0 Q h' (k + rm.cells) (n + rm.slots) q Ls (v.toList ++ rest)) : Ok W R n0 Q h k n pc Ls st := fun T locs X e N => by
  subst hq hs
  obtain ⟨cq, q1, q2⟩ := E.cell
  obtain ⟨v, vm1, ⟨T', L', k', n'⟩, -, X', ⟨Lc, hQ, l1, y1, z1⟩, st'⟩ := X.privateBack C.1 (y := y) C.2.2.2.2.1 (mvT C.2.1 w1) (mvT C.2.1 w6) (mvT C.2.1 (own_selects w5 w6 w7 hcc hm)) (Cond.privateMethod_at (mvP C.2.1 w7 (args := #[]))) (mvT C.2.1 w4) hm (backOf (W := wt) (R := R) (Q := fun v h L => Q' v h ∧ Fr n0 L) D C.2.1 w4 w3 hf hl) (g := mkF W.m pc Ls.toArray (argsL.reverse ++ .ref a :: rest)) rfl (by rw [C.2.2.2.1, ← hsz]; simp) (Steps.refl _) (a := a) (by rw [e]; exact q1) q2 (argsL := argsL) (rest := rest) (lenOf pd hlen) rfl (by show 2 * 0 + _ ≤ _; omega) (hb C.2.2.1 hd) (fun _ _ => ⟨rfl, e, hc, hsl⟩)
  dsimp only [Pt.U, Pt.locs, Pt.cells, Pt.slots] at X' l1 y1 z1 st' hQ
  subst l1 y1 z1
  obtain ⟨s₂, o, S, r⟩ := own_after (g v _ hQ.1) N hQ.2 X' rfl
  exact ⟨s₂, o, st'.trans S, r⟩
/-! numbers -/
theorem own_add {t x y : Int32} (e : t = x + y) (h1 : -2147483648 ≤ x.toInt + y.toInt) (h2 : x.toInt + y.toInt < 2147483648) : t.toInt = x.toInt + y.toInt := by
  have := c_iadd x y; have := rng32 (x + y); subst e; omega
theorem own_sub {t x y : Int32} (e : t = x - y) (h1 : -2147483648 ≤ x.toInt - y.toInt) (h2 : x.toInt - y.toInt < 2147483648) : t.toInt = x.toInt - y.toInt := by
  have := c_isub x y; have := rng32 (x - y); subst e; omega
theorem own_lsub {t x y : Int64} (e : t = x - y) (h1 : -9223372036854775808 ≤ x.toInt - y.toInt) (h2 : x.toInt - y.toInt < 9223372036854775808) : t.toInt = x.toInt - y.toInt := by
  have := c_lsub x y; have := rng64 (x - y); subst e; omega
theorem own_ladd {t x y : Int64} (e : t = x + y) (h1 : -9223372036854775808 ≤ x.toInt + y.toInt) (h2 : x.toInt + y.toInt < 9223372036854775808) : t.toInt = x.toInt + y.toInt := by
  have := c_ladd x y; have := rng64 (x + y); subst e; omega
theorem own_one : (1 &&& 1 : Int32) = 1 := rfl
theorem own_zero : (0 &&& 1 : Int32) = 0 := rfl
end Own
theorem own_w {Z : State} {a0 : Array Value} (hw : ∀ d ∈ tables_1, d.before a0 Z = true) (i : Nat) {d : Jvm.Cond} (e : tables_1[i]? = some d) : d.before a0 Z = true := hw d (List.mem_of_getElem? e)
theorem own_four {r : Int32} (h : r.toInt = 1 ∨ r.toInt = 2 ∨ r.toInt = 3 ∨ r.toInt = 4) : r = 1 ∨ r = 2 ∨ r = 3 ∨ r = 4 := by
  rcases h with h | h | h | h
  · exact Or.inl (Int32.toInt_inj.mp h)
  · exact Or.inr (Or.inl (Int32.toInt_inj.mp h))
  · exact Or.inr (Or.inr (Or.inl (Int32.toInt_inj.mp h)))
  · exact Or.inr (Or.inr (Or.inr (Int32.toInt_inj.mp h)))
theorem own_pow {r t : Int32} {z : Int64} (h : r = 1 ∨ r = 2 ∨ r = 3 ∨ r = 4) (e : t = 8 * r) (ez : z = (1 : Int64) <<< (t &&& 0x3f).toInt64) : r.toInt = 1 ∧ z.toInt = 256 ∨ r.toInt = 2 ∧ z.toInt = 65536 ∨ r.toInt = 3 ∧ z.toInt = 16777216 ∨ r.toInt = 4 ∧ z.toInt = 4294967296 := by
  rcases h with rfl | rfl | rfl | rfl <;> subst e ez <;> decide
theorem own_pow1 {r s t : Int32} {z : Int64} (h : r = 1 ∨ r = 2 ∨ r = 3 ∨ r = 4) (es : s = r - 1) (e : t = 8 * s) (ez : z = (1 : Int64) <<< (t &&& 0x3f).toInt64) : r.toInt = 1 ∧ z.toInt = 1 ∨ r.toInt = 2 ∧ z.toInt = 256 ∨ r.toInt = 3 ∧ z.toInt = 65536 ∨ r.toInt = 4 ∧ z.toInt = 16777216 := by
  rcases h with rfl | rfl | rfl | rfl <;> subst es e ez <;> decide

theorem d1_0 : decode prog_86_method_3_code 0 = .ok (.iconst 4, 1) := by decide +kernel
theorem d1_1 : decode prog_86_method_3_code 1 = .ok (.istore_n 1, 1) := by decide +kernel
theorem d1_2 : decode prog_86_method_3_code 2 = .ok (.iload_n 0, 1) := by decide +kernel
theorem d1_3 : decode prog_86_method_3_code 3 = .ok (.bipush 8, 2) := by decide +kernel
theorem d1_5 : decode prog_86_method_3_code 5 = .ok (.iushr, 1) := by decide +kernel
theorem d1_6 : decode prog_86_method_3_code 6 = .ok (.ifCond .ne 8, 3) := by decide +kernel
theorem d1_9 : decode prog_86_method_3_code 9 = .ok (.iconst 1, 1) := by decide +kernel
theorem d1_10 : decode prog_86_method_3_code 10 = .ok (.istore_n 1, 1) := by decide +kernel
theorem d1_11 : decode prog_86_method_3_code 11 = .ok (.goto 24, 3) := by decide +kernel
theorem d1_14 : decode prog_86_method_3_code 14 = .ok (.iload_n 0, 1) := by decide +kernel
theorem d1_15 : decode prog_86_method_3_code 15 = .ok (.bipush 16, 2) := by decide +kernel
theorem d1_17 : decode prog_86_method_3_code 17 = .ok (.iushr, 1) := by decide +kernel
theorem d1_18 : decode prog_86_method_3_code 18 = .ok (.ifCond .ne 8, 3) := by decide +kernel
theorem d1_21 : decode prog_86_method_3_code 21 = .ok (.iconst 2, 1) := by decide +kernel
theorem d1_22 : decode prog_86_method_3_code 22 = .ok (.istore_n 1, 1) := by decide +kernel
theorem d1_23 : decode prog_86_method_3_code 23 = .ok (.goto 12, 3) := by decide +kernel
theorem d1_26 : decode prog_86_method_3_code 26 = .ok (.iload_n 0, 1) := by decide +kernel
theorem d1_27 : decode prog_86_method_3_code 27 = .ok (.bipush 24, 2) := by decide +kernel
theorem d1_29 : decode prog_86_method_3_code 29 = .ok (.iushr, 1) := by decide +kernel
theorem d1_30 : decode prog_86_method_3_code 30 = .ok (.ifCond .ne 5, 3) := by decide +kernel
theorem d1_33 : decode prog_86_method_3_code 33 = .ok (.iconst 3, 1) := by decide +kernel
theorem d1_34 : decode prog_86_method_3_code 34 = .ok (.istore_n 1, 1) := by decide +kernel
theorem d1_35 : decode prog_86_method_3_code 35 = .ok (.iload_n 1, 1) := by decide +kernel
theorem d1_36 : decode prog_86_method_3_code 36 = .ok (.ireturn, 1) := by decide +kernel
theorem pn_1 : plainFor (⟨"com/example/twigwright/twigwright/PackedColumn", "bytesFor", "(I)I"⟩ : MethodName) = true := by first | exact plainFor_of_name (by first | (simp [plainName, overriddenIn]; done) | decide +kernel) | decide +kernel
set_option maxRecDepth 65536 in
set_option maxHeartbeats 40000000 in
theorem rm_1 (l : Launch) (Z : State) (a0 : Array Value) (hw : ∀ d ∈ tables_1, d.before a0 Z = true) (p0 : Int32) (h : Heap) (n0 : Nat) (Z0 : n0 ≤ h.size)  :
    Does l Z (⟨"com/example/twigwright/twigwright/PackedColumn", "bytesFor", "(I)I"⟩ : MethodName) prog_86_method_3_code 2 (some .int) ({ frames := 0, cells := 0, slots := 0, locals := 0 } : Room) #[(.int p0)] h n0 (fun v h' => h = h' ∧ ∃ r : Int32, v = some (.int r) ∧ (r.toInt = 1 ∧ p0.toInt % 4294967296 < 256 ∨ r.toInt = 2 ∧ 256 ≤ p0.toInt % 4294967296 ∧ p0.toInt % 4294967296 < 65536 ∨ r.toInt = 3 ∧ 65536 ≤ p0.toInt % 4294967296 ∧ p0.toInt % 4294967296 < 16777216 ∨ r.toInt = 4 ∧ 16777216 ≤ p0.toInt % 4294967296)) := by
  refine Does.of_body pn_1 [.val (.int p0), .unset] (fun m => by first | (simp [entryFrame, mkF, argsToLocals, Value.category]; done) | rfl) ?_
  intro W hWl cx
  subst hWl
  have cx : Cx W Z "com/example/twigwright/twigwright/PackedColumn" "bytesFor" prog_86_method_3_code 2 (some .int) := cx
  have l32_4 : (4 : Int32).toInt = 4 := rfl
  have l32_8 : (8 : Int32).toInt = 8 := rfl
  have l32_1 : (1 : Int32).toInt = 1 := rfl
  have l32_16 : (16 : Int32).toInt = 16 := rfl
  have l32_2 : (2 : Int32).toInt = 2 := rfl
  have l32_24 : (24 : Int32).toInt = 24 := rfl
  have l32_3 : (3 : Int32).toInt = 3 := rfl
  refine Ok.iconst cx d1_0 1 rfl (4 : Int32) rfl ?_
  refine Ok.istoreN cx d1_1 rfl One.u [.val (.int p0), .val (.int (4 : Int32))] rfl 2 rfl ?_
  refine Ok.iloadN cx d1_2 rfl 3 rfl ?_
  refine Ok.bipush cx d1_3 5 rfl (8 : Int32) rfl ?_
  refine Ok.iushr cx d1_5 6 rfl fun t5 e5 => ?_
  have s5 := c_iushr p0 (8 : Int32) 8 (by decide) (by decide); rw [← e5] at s5
  refine Ok.if_ne cx d1_6 14 9 (by decide) rfl (fun c6 => ?_) (fun c6 => ?_)
  · skip
    refine Ok.iloadN cx d1_14 rfl 15 rfl ?_
    refine Ok.bipush cx d1_15 17 rfl (16 : Int32) rfl ?_
    refine Ok.iushr cx d1_17 18 rfl fun t17 e17 => ?_
    have s17 := c_iushr p0 (16 : Int32) 16 (by decide) (by decide); rw [← e17] at s17
    refine Ok.if_ne cx d1_18 26 21 (by decide) rfl (fun c18 => ?_) (fun c18 => ?_)
    · skip
      refine Ok.iloadN cx d1_26 rfl 27 rfl ?_
      refine Ok.bipush cx d1_27 29 rfl (24 : Int32) rfl ?_
      refine Ok.iushr cx d1_29 30 rfl fun t29 e29 => ?_
      have s29 := c_iushr p0 (24 : Int32) 24 (by decide) (by decide); rw [← e29] at s29
      refine Ok.if_ne cx d1_30 35 33 (by decide) rfl (fun c30 => ?_) (fun c30 => ?_)
      · skip
        refine Ok.iloadN cx d1_35 rfl 36 rfl ?_
        exact Ok.ireturn cx d1_36 (by decide) (by decide) ⟨rfl, _, rfl, by omega⟩
      · skip
        refine Ok.iconst cx d1_33 34 rfl (3 : Int32) rfl ?_
        refine Ok.istoreN cx d1_34 rfl (One.val rfl) [.val (.int p0), .val (.int (3 : Int32))] rfl 35 rfl ?_
        refine Ok.iloadN cx d1_35 rfl 36 rfl ?_
        exact Ok.ireturn cx d1_36 (by decide) (by decide) ⟨rfl, _, rfl, by omega⟩
    · skip
      refine Ok.iconst cx d1_21 22 rfl (2 : Int32) rfl ?_
      refine Ok.istoreN cx d1_22 rfl (One.val rfl) [.val (.int p0), .val (.int (2 : Int32))] rfl 23 rfl ?_
      refine Ok.goto cx d1_23 35 (by decide) ?_
      refine Ok.iloadN cx d1_35 rfl 36 rfl ?_
      exact Ok.ireturn cx d1_36 (by decide) (by decide) ⟨rfl, _, rfl, by omega⟩
  · skip
    refine Ok.iconst cx d1_9 10 rfl (1 : Int32) rfl ?_
    refine Ok.istoreN cx d1_10 rfl (One.val rfl) [.val (.int p0), .val (.int (1 : Int32))] rfl 11 rfl ?_
    refine Ok.goto cx d1_11 35 (by decide) ?_
    refine Ok.iloadN cx d1_35 rfl 36 rfl ?_
    exact Ok.ireturn cx d1_36 (by decide) (by decide) ⟨rfl, _, rfl, by omega⟩
theorem pn_0 : plainFor x = true := by first | exact plainFor_of_name (by first | (simp [plainName, overriddenIn]; done) | decide +kernel) | decide +kernel
theorem pd_0 : parseMethodDescriptor "(I)I" = some ⟨[.int], some .int⟩ := by decide +kernel
set_option maxRecDepth 65536 in
set_option maxHeartbeats 40000000 in
theorem rm_0 (l : Launch) (Z : State) (a0 : Array Value) (hw : ∀ d ∈ tables_1, d.before a0 Z = true) (p0 p1 : Int32) (h : Heap) (n0 : Nat) (Z0 : n0 ≤ h.size)  :
    DoesW l Z x code maxLocals ret room_1 tables_1 #[(.int p0), (.int p1)] h n0 (fun v _ => v = some (.int 1)) := by
  refine DoesW.of_body pn_0 [.val (.int p0), .val (.int p1), .unset, .unset, .unset, .unset, .unset, .unset] (fun m => by first | (simp [entryFrame, mkF, argsToLocals, Value.category, maxLocals]; done) | rfl) ?_
  intro W hWl cx
  subst hWl
  have cx : Cx W Z "com/example/twigwright/twigwright/PackedColumnBytesForPinLaw" "law" code 8 (some .boolean) := cx
  have lz1 : ((1 : Int32) &&& 1).toInt = 1 := rfl
  have lz0 : ((0 : Int32) &&& 1).toInt = 0 := rfl
  have l32_3 : (3 : Int32).toInt = 3 := rfl
  have l32_8 : (8 : Int32).toInt = 8 := rfl
  have l32_1 : (1 : Int32).toInt = 1 := rfl
  have l32_4 : (4 : Int32).toInt = 4 := rfl
  have l32_0 : (0 : Int32).toInt = 0 := rfl
  have l64_4294967295 : (4294967295 : Int64).toInt = 4294967295 := rfl
  have l64_1 : (1 : Int64).toInt = 1 := rfl
  refine Ok.iloadN cx at_0 rfl 1 rfl ?_
  refine Ok.iloadN cx at_1 rfl 2 rfl ?_
  refine Ok.iconst cx at_2 3 rfl (3 : Int32) rfl ?_
  refine Ok.iand cx at_3 4 rfl fun t3 e3 => ?_
  refine Ok.bipush cx at_4 6 rfl (8 : Int32) rfl ?_
  refine Ok.imul cx at_6 7 rfl fun t6 e6 => ?_
  refine Ok.iushr cx at_7 8 rfl fun t7 e7 => ?_
  refine Ok.istoreN cx at_8 rfl One.u [.val (.int p0), .val (.int p1), .val (.int t7), .unset, .unset, .unset, .unset, .unset] rfl 9 rfl ?_
  refine Ok.iloadN cx at_9 rfl 10 rfl ?_
  refine Ok.callStatic cx [(.int t7)] [] rfl (own_w hw 0 rfl) (own_w hw 1 rfl) (own_w hw 2 rfl) (own_w hw 3 rfl) at_10 (by decide) pd_0 rfl rfl  (rm_1 W.l Z a0 hw t7 h n0 Z0) (by decide) 0 rfl (by decide) (by decide) (by decide) 13 rfl fun v10 h10_ q10 => ?_
  obtain ⟨rfl, r, rfl, hr⟩ := q10
  have r4 : r = 1 ∨ r = 2 ∨ r = 3 ∨ r = 4 := own_four (by omega)
  show Ok _ _ _ _ _ _ _ _ _ [(.int r)]
  refine Ok.istoreN cx at_13 rfl One.u [.val (.int p0), .val (.int p1), .val (.int t7), .val (.int r), .unset, .unset, .unset, .unset] rfl 14 rfl ?_
  refine Ok.iloadN cx at_14 rfl 15 rfl ?_
  refine Ok.iconst cx at_15 16 rfl (1 : Int32) rfl ?_
  refine Ok.icmp_lt cx at_16 24 19 (by decide) rfl (fun c16 => by exfalso; omega) (fun c16 => ?_)
  refine Ok.iloadN cx at_19 rfl 20 rfl ?_
  refine Ok.iconst cx at_20 21 rfl (4 : Int32) rfl ?_
  refine Ok.icmp_le cx at_21 26 24 (by decide) rfl (fun c21 => ?_) (fun c21 => by exfalso; omega)
  refine Ok.iloadN cx at_26 rfl 27 rfl ?_
  refine Ok.i2l cx at_27 28 rfl fun t27 e27 => ?_
  refine Ok.ldc2 cx (own_w hw 4 rfl) at_28 31 rfl ?_
  refine Ok.land cx at_31 32 rfl fun t31 e31 => ?_
  refine Ok.lstore cx at_32 [.val (.int p0), .val (.int p1), .val (.int t7), .val (.int r), .val (.long t31), .second, .unset, .unset] rfl 34 rfl ?_
  have u31 := c_maskL t27 4294967295 32 (by decide) (by decide); rw [← e31, e27, c_i2l] at u31
  refine Ok.lload cx at_34 rfl 36 rfl ?_
  refine Ok.lconst cx at_36 37 rfl (1 : Int64) rfl ?_
  refine Ok.bipush cx at_37 39 rfl (8 : Int32) rfl ?_
  refine Ok.iloadN cx at_39 rfl 40 rfl ?_
  refine Ok.imul cx at_40 41 rfl fun t40 e40 => ?_
  refine Ok.lshl cx at_41 42 rfl fun t41 e41 => ?_
  have z41 := own_pow r4 e40 e41
  refine Ok.lcmp_ge cx at_42 at_43 50 46 (by decide) rfl (fun c43 => by exfalso; omega) (fun c43 => ?_)
  refine Ok.iconst cx at_46 47 rfl (1 : Int32) rfl ?_
  refine Ok.goto cx at_47 51 (by decide) ?_
  refine Ok.istore cx at_51 rfl One.u [.val (.int p0), .val (.int p1), .val (.int t7), .val (.int r), .val (.long t31), .second, .val (.int (1 : Int32)), .unset] rfl 53 rfl ?_
  refine Ok.iloadN cx at_53 rfl 54 rfl ?_
  refine Ok.iconst cx at_54 55 rfl (1 : Int32) rfl ?_
  refine Ok.icmp_eq cx at_55 72 58 (by decide) rfl (fun c55 => ?_) (fun c55 => ?_)
  · skip
    refine Ok.iconst cx at_72 73 rfl (1 : Int32) rfl ?_
    refine Ok.goto cx at_73 77 (by decide) ?_
    refine Ok.istore cx at_77 rfl One.u [.val (.int p0), .val (.int p1), .val (.int t7), .val (.int r), .val (.long t31), .second, .val (.int (1 : Int32)), .val (.int (1 : Int32))] rfl 79 rfl ?_
    refine Ok.iload cx at_79 rfl 81 rfl ?_
    refine Ok.if_eq cx at_81 93 84 (by decide) rfl (fun c81 => by exfalso; omega) (fun c81 => ?_)
    refine Ok.iload cx at_84 rfl 86 rfl ?_
    refine Ok.if_eq cx at_86 93 89 (by decide) rfl (fun c86 => by exfalso; omega) (fun c86 => ?_)
    refine Ok.iconst cx at_89 90 rfl (1 : Int32) rfl ?_
    refine Ok.goto cx at_90 94 (by decide) ?_
    exact Ok.zreturn cx at_94 (by decide) (by decide) rfl
  · skip
    refine Ok.lload cx at_58 rfl 60 rfl ?_
    refine Ok.lconst cx at_60 61 rfl (1 : Int64) rfl ?_
    refine Ok.bipush cx at_61 63 rfl (8 : Int32) rfl ?_
    refine Ok.iloadN cx at_63 rfl 64 rfl ?_
    refine Ok.iconst cx at_64 65 rfl (1 : Int32) rfl ?_
    refine Ok.isub cx at_65 66 rfl fun t65 e65 => ?_
    refine Ok.imul cx at_66 67 rfl fun t66 e66 => ?_
    refine Ok.lshl cx at_67 68 rfl fun t67 e67 => ?_
    have z67 := own_pow1 r4 e65 e66 e67
    refine Ok.lcmp_lt cx at_68 at_69 76 72 (by decide) rfl (fun c69 => by exfalso; omega) (fun c69 => ?_)
    refine Ok.iconst cx at_72 73 rfl (1 : Int32) rfl ?_
    refine Ok.goto cx at_73 77 (by decide) ?_
    refine Ok.istore cx at_77 rfl One.u [.val (.int p0), .val (.int p1), .val (.int t7), .val (.int r), .val (.long t31), .second, .val (.int (1 : Int32)), .val (.int (1 : Int32))] rfl 79 rfl ?_
    refine Ok.iload cx at_79 rfl 81 rfl ?_
    refine Ok.if_eq cx at_81 93 84 (by decide) rfl (fun c81 => by exfalso; omega) (fun c81 => ?_)
    refine Ok.iload cx at_84 rfl 86 rfl ?_
    refine Ok.if_eq cx at_86 93 89 (by decide) rfl (fun c86 => by exfalso; omega) (fun c86 => ?_)
    refine Ok.iconst cx at_89 90 rfl (1 : Int32) rfl ?_
    refine Ok.goto cx at_90 94 (by decide) ?_
    exact Ok.zreturn cx at_94 (by decide) (by decide) rfl
set_option maxRecDepth 65536 in
set_option maxHeartbeats 40000000 in
theorem comes_1 {Post : Tables → Env → Array Value → State → Outcome → State → Prop} (hpost : ∀ tb e args s v u, (limb_1_1.after args s (.returned v) u = true ∧ limb_1_2.after args s (.returned v) u = true ∧ True) → FrameEnd s (.returned v) u (Jvm.fieldLocs frame_1_writes args s ++ Jvm.arrayLocs frame_1_arrays args s ++ Jvm.staticLocs frame_1_statics s) 0 0 → Post tb e args s (.returned v) u) :
    ArmFor flags0 classFile x code maxLocals ret World_1 tables_1 room_1 Calls_1 rest_1 Pre_1 Post := by
  intro l hfl _ _ p e ha hc hk s m args below hf hA hF happ hP
  obtain ⟨hcalls, hrest, hpre⟩ := hP
  obtain ⟨-, -, -, hnamed, -, -, -, hat⟩ := (Spec.applies_iff hf).mp happ
  obtain ⟨hg, hn⟩ := and_e (Cond.before_iff.mp (show (Jvm.Cond.and given_1 narrow_1).before args s = true from hpre))
  obtain ⟨hcount, g0⟩ := and_e hg
  obtain ⟨b0, g1⟩ := and_e g0
  have b1 := g1
  obtain ⟨w0, w1, rfl⟩ : ∃ w0 w1 : Value, args = #[w0, w1] := by
    have hs : args.size = 2 := by simpa [Cond.value, given_1] using hcount
    obtain ⟨L⟩ := args
    match L, hs with
    | [w0, w1], _ => exact ⟨w0, w1, rfl⟩
  have hw := fun d (hd : d ∈ tables_1) => atoms_spec (ws := Jvm.Cond.code x code maxLocals ret :: tables_1) hat d (List.mem_cons_of_mem _ hd)
  obtain ⟨i0, q0⟩ := is_v b0
  obtain rfl : w0 = (.int i0) := Option.some.inj q0
  obtain ⟨i1, q1⟩ := is_v b1
  obtain rfl : w1 = (.int i1) := Option.some.inj q1
  obtain ⟨n, o, h1, h2, h3, _, L, rfl, ⟨rfl, N⟩, hq⟩ := rm_0 l s _ hw i0 i1 s.heap s.heap.size (Nat.le_refl _) p e ha hc hk s m _ below hf ((Spec.applies_iff_loose hf).mp happ).1 ⟨rfl, State.Warmed39.refl s, rfl⟩ trivial
  refine ⟨n, _, h1, h2, h3, hpost _ _ _ _ _ _ ⟨Cond.after_iff.mpr rfl, Cond.after_iff.mpr (eq_i res_at (Term.int_eval (1)) rfl), trivial⟩ ⟨hq.1, hq.2.1, (hq.2.2.sift fun y hy => Or.inr (N y hy)).mono (by decide) (by decide)⟩⟩
theorem main_1_1 : Claimed_1_1 := comes_1 fun _ _ _ _ _ _ h hF => ⟨h.1, hF⟩
theorem main_1_2 : Claimed_1_2 := comes_1 fun _ _ _ _ _ _ h hF => ⟨h.2.1, hF⟩
end Jvm.Pilot.@@N@@
namespace Jvm.Pilot.@@N@@
open Jvm Jvm.ClassFile Sem Op Lib Jvm.Free Jvm.Stand Jvm.Pilot.@@N@@.Jvm.D
/-! MADE BY PROGRAM (witnessworld.py) out of the Statement's table words and the real class files: 9 classes; the members and pool entries that the words name. The judged class is class 1, her method 1. -/
namespace start1
open Jvm.ClassFile
def u (s : String) : CpInfo := .utf8 (stringToUtf16 s)
/-- a pool by its gaps: so many unusable entries, then the entry; so many at the end -/
def gap : Nat → List CpInfo → List CpInfo
  | 0, r => r
  | n + 1, r => .unusable :: gap n r
def poolList (es : List (Nat × CpInfo)) (last : Nat) : List CpInfo := es.foldr (fun e r => gap e.1 (e.2 :: r)) (gap last [])
def pool (es : List (Nat × CpInfo)) (last : Nat) : Array CpInfo := ⟨poolList es last⟩
def fileOf (pool : Array CpInfo) (this : Nat) (attrs : Array Attribute := #[]) (ms : Array MethodInfo := #[]) (fl : Nat := 33) (sup : Nat := 0) (ifs : Array Nat := #[]) (fds : Array FieldInfo := #[]) : ClassFile where
  minorVersion := 0
  majorVersion := 65
  constantPool := pool
  accessFlags := fl
  thisClass := this
  superClass := sup
  interfaces := ifs
  fields := fds
  methods := ms
  attributes := attrs
def plain (name : String) (sup : Option ClassId) : Class where
  name := name
  kind := .ordinary
  loader := none
  accessFlags := 33
  super := sup
  interfaces := #[]
  cf := none
  fields := #[]
  methods := #[]
  instanceTypes := #[]
  staticTypes := #[]
  resolved := #[]
  callSites := []
  init := .initialized
  statics := none
  mirror := none

def pool0 : Array CpInfo := pool [(5, u "<init>"), (0, u "()V"), (1, .class_ 10), (1, u "java/lang/Object")] 113

def k0m0 : Method := { name := "<init>", desc := "()V", sig := { parameters := [], returnType := none }, accessFlags := 1, code := none }
/-- java/lang/Object -/
def k0 : Class := { plain "java/lang/Object" none with
  accessFlags := 33
  interfaces := #[]
  cf := some (fileOf pool0 8 #[] #[{ accessFlags := 1, nameIndex := 5, descriptorIndex := 6, attributes := #[] }] 33 0 #[] #[])
  fields := #[]
  methods := #[k0m0]
  instanceTypes := #[]
  staticTypes := #[]
  resolved := Array.replicate 124 none
  statics := none }

def pool1 : Array CpInfo := pool [(2, .class_ 4), (1, u "java/lang/Object"), (0, u "<init>"), (0, u "()V"), (0, .methodref 8 9), (0, .class_ 10), (0, .nameAndType 11 12), (0, u "com/example/twigwright/twigwright/PackedColumn"), (0, u "bytesFor"), (0, u "(I)I"), (0, .long 4294967295), (1, .class_ 16), (0, u "com/example/twigwright/twigwright/PackedColumnBytesForPinLaw"), (2, u "law"), (0, u "(II)Z")] 3

def k1m0 : Method := { name := "<init>", desc := "()V", sig := { parameters := [], returnType := none }, accessFlags := 1, code := none }
def k1c1 : Code := { maxStack := 7, maxLocals := 8, code := code, exceptionTable := #[], attributes := #[] }
def k1m1 : Method := { name := "law", desc := "(II)Z", sig := { parameters := [.int, .int], returnType := some .boolean }, accessFlags := 9, code := some k1c1 }
/-- com/example/twigwright/twigwright/PackedColumnBytesForPinLaw -/
def k1 : Class := { plain "com/example/twigwright/twigwright/PackedColumnBytesForPinLaw" (some 0) with
  accessFlags := 49
  interfaces := #[]
  cf := some (fileOf pool1 15 #[] #[{ accessFlags := 1, nameIndex := 5, descriptorIndex := 6, attributes := #[] }, { accessFlags := 9, nameIndex := 19, descriptorIndex := 20, attributes := #[] }] 49 2 #[] #[])
  fields := #[]
  methods := #[k1m0, k1m1]
  instanceTypes := #[]
  staticTypes := #[]
  resolved := Array.replicate 24 none
  statics := none }

def pool2 : Array CpInfo := pool [(4, .class_ 6), (1, u "java/lang/Object"), (9, .class_ 18), (1, u "com/example/twigwright/twigwright/PackedColumn"), (0, u "bytes"), (0, u "Lcom/example/twigwright/twigwright/SectionBytes;"), (25, u "width"), (0, u "I"), (4, u "mask"), (2, u "firstWindow"), (3, u "Ljava/nio/ByteBuffer;"), (6, u "firstWindowEntries"), (2, u "bytesFor"), (0, u "(I)I"), (51, .class_ 123), (0, u "com/example/twigwright/twigwright/PackedColumn$Run"), (3, u "SLACK"), (2, u "COPIED"), (15, .class_ 147), (0, u "com/example/twigwright/twigwright/PackedColumn$Writer")] 17

def k2c0 : Code := { maxStack := 2, maxLocals := 2, code := prog_86_method_3_code, exceptionTable := #[], attributes := #[] }
def k2m0 : Method := { name := "bytesFor", desc := "(I)I", sig := { parameters := [.int], returnType := some .int }, accessFlags := 8, code := some k2c0 }
/-- com/example/twigwright/twigwright/PackedColumn -/
def k2 : Class := { plain "com/example/twigwright/twigwright/PackedColumn" (some 0) with
  accessFlags := 48
  interfaces := #[]
  cf := some (fileOf pool2 16 #[.nestMembers #[146, 122]] #[{ accessFlags := 8, nameIndex := 69, descriptorIndex := 70, attributes := #[] }] 48 4 #[] #[{ accessFlags := 26, nameIndex := 127, descriptorIndex := 47, attributes := #[] }, { accessFlags := 26, nameIndex := 130, descriptorIndex := 47, attributes := #[] }, { accessFlags := 18, nameIndex := 19, descriptorIndex := 20, attributes := #[] }, { accessFlags := 18, nameIndex := 55, descriptorIndex := 59, attributes := #[] }, { accessFlags := 18, nameIndex := 66, descriptorIndex := 47, attributes := #[] }, { accessFlags := 18, nameIndex := 46, descriptorIndex := 47, attributes := #[] }, { accessFlags := 18, nameIndex := 52, descriptorIndex := 47, attributes := #[] }])
  fields := #[{ name := "SLACK", type := .int, accessFlags := 26, slot := 0, constantValue := 0 }, { name := "COPIED", type := .int, accessFlags := 26, slot := 1, constantValue := 0 }, { name := "bytes", type := (.object "com/example/twigwright/twigwright/SectionBytes"), accessFlags := 18, slot := 0, constantValue := 0 }, { name := "firstWindow", type := (.object "java/nio/ByteBuffer"), accessFlags := 18, slot := 1, constantValue := 0 }, { name := "firstWindowEntries", type := .int, accessFlags := 18, slot := 2, constantValue := 0 }, { name := "width", type := .int, accessFlags := 18, slot := 3, constantValue := 0 }, { name := "mask", type := .int, accessFlags := 18, slot := 4, constantValue := 0 }]
  methods := #[k2m0]
  instanceTypes := #[(.object "com/example/twigwright/twigwright/SectionBytes"), (.object "java/nio/ByteBuffer"), .int, .int, .int]
  staticTypes := #[.int, .int]
  resolved := Array.replicate 165 none
  statics := none }

def pool3 : Array CpInfo := pool [(1, u "java/lang/Cloneable"), (0, .class_ 1), (0, u "java/lang/Object"), (0, .class_ 3)] 3

/-- java/lang/Cloneable -/
def k3 : Class := { plain "java/lang/Cloneable" (some 0) with
  accessFlags := 1537
  interfaces := #[]
  cf := some (fileOf pool3 2 #[] #[] 1537 4 #[] #[])
  fields := #[]
  methods := #[]
  instanceTypes := #[]
  staticTypes := #[]
  resolved := Array.replicate 8 none
  statics := none }

def pool4 : Array CpInfo := pool [(1, u "java/io/Serializable"), (0, .class_ 1), (0, u "java/lang/Object"), (0, .class_ 3)] 3

/-- java/io/Serializable -/
def k4 : Class := { plain "java/io/Serializable" (some 0) with
  accessFlags := 1537
  interfaces := #[]
  cf := some (fileOf pool4 2 #[] #[] 1537 4 #[] #[])
  fields := #[]
  methods := #[]
  instanceTypes := #[]
  staticTypes := #[]
  resolved := Array.replicate 8 none
  statics := none }

/-- the primitive byte -/
def k5 : Class := { plain "byte" none with kind := .primitive 'B', accessFlags := 0x411 }
/-- [B -/
def k6 : Class := { plain "[B" (some 0) with kind := .array 5 .byte, interfaces := #[3, 4], accessFlags := 1041 }

/-- the primitive int -/
def k7 : Class := { plain "int" none with kind := .primitive 'I', accessFlags := 0x411 }
/-- [I -/
def k8 : Class := { plain "[I" (some 0) with kind := .array 7 .int, interfaces := #[3, 4], accessFlags := 1041 }

def heap : Heap := #[]
def classes : Array Class := #[k0, k1, k2, k3, k4, k5, k6, k7, k8]
def interned : List (Array UInt16 × Addr) := []
def slotsUsed : Nat := 0
def theMethod : MethodId := ⟨1, 1⟩
def args0 : Array Value := #[.int 5, .int 1]
def aboutOver (below : List Frame) : State where
  vm := { classes := classes, interned := interned.toArray }
  heap := heap
  slotsUsed := slotsUsed
  threads := #[{ frames := .invoking theMethod args0 :: below }]
def below0 : List Frame := [.native { method := ⟨0, 0⟩, args := #[] }]
def about1 : State := aboutOver below0
def p0 : Program := .bare "" "" ""
def e0 : Env := launch0.env 0 0 0
theorem w_frames : about1.frames = Frame.invoking theMethod args0 :: below0 := rfl
set_option maxRecDepth 65536 in
theorem w_args : argsFit about1.vm theMethod args0 = true := by decide +kernel
set_option maxRecDepth 65536 in
theorem w_heap : heapFits about1 = true := by decide +kernel
set_option maxRecDepth 65536 in
theorem w_runnable : about1.curStatus? = some .runnable := by decide +kernel
set_option maxRecDepth 65536 in
theorem w_alone : about1.alone = true := by decide +kernel
set_option maxRecDepth 65536 in
theorem w_named : about1.methodNamed? x = some theMethod := by decide +kernel
set_option maxRecDepth 65536 in
theorem w_hears : about1.hears theMethod below0 = true := by decide +kernel
set_option maxRecDepth 65536 in
theorem w_ripe : about1.ripe theMethod args0 below0 = true := by decide +kernel
theorem w_running : about1.status = .running := rfl
set_option maxRecDepth 65536 in
theorem w_room : about1.hasRoom e0.platform room_1 = true :=
  launch0.hasRoom_least _ room_1 (by decide +kernel) (by decide +kernel) (by decide +kernel) (by decide +kernel) (by decide +kernel) (by decide +kernel)
theorem allAtoms_all (ts : List Jvm.Cond) (a : Array Jvm.Value) (st : Jvm.State) : (allAtoms ts).before a st = ts.all (fun c => c.before a st) := by
  induction ts with
  | nil => rfl
  | cons c t ih =>
    show (Jvm.Cond.and c (allAtoms t)).before a st = _
    rw [Jvm.Cond.before_and, ih, List.all_cons]
def words1 : List Jvm.Cond := Jvm.Cond.code x code maxLocals ret :: tables_1
/-- a 'code' word, met by the world's own term for the bytes: nothing is compared byte by byte -/
theorem code_word {y : MethodName} {bytes : ByteArray} {mx : Nat} {rt : Option FieldType} {a : Array Value} {s : State} {m : MethodId} {meth : Method} {c : Code} (h1 : s.methodNamed? y = some m) (h2 : s.vm.method? m = some meth) (h3 : meth.code = some c) (h4 : c.code = bytes)
    (h5 : (c.maxLocals == mx && c.exceptionTable.isEmpty && decide (c.maxStack ≤ mostOperands) && decide (meth.sig.returnType = rt) && !meth.locks && decide (parseMethodDescriptor y.desc = some meth.sig)) = true) : (Jvm.Cond.code y bytes mx rt).before a s = true := by
  simp only [Bool.and_eq_true, beq_iff_eq, Bool.not_eq_true', decide_eq_true_eq] at h5
  obtain ⟨⟨⟨⟨⟨g1, g2⟩, g3⟩, g4⟩, g5⟩, g6⟩ := h5
  simp [Cond.before, Cond.holds, Cond.value, h1, h2, h3, h4, g1, g2, g3, g4, g5, g6]
def isCode : Jvm.Cond → Bool
  | .code _ _ _ _ => true
  | _ => false
theorem all_split {L : List Jvm.Cond} {P : Jvm.Cond → Bool} (h1 : L.all (fun c => isCode c || P c) = true) (h2 : ∀ c ∈ L.filter isCode, P c = true) : L.all P = true := by
  refine List.all_eq_true.mpr fun c hc => ?_
  have h := List.all_eq_true.mp h1 c hc
  rcases Bool.eq_false_or_eq_true (isCode c) with hi | hi
  · exact h2 c (List.mem_filter.mpr ⟨hc, hi⟩)
  · simpa [hi] using h
set_option maxRecDepth 65536 in
theorem w_c0 : (Jvm.Cond.code x code maxLocals ret).before args0 about1 = true := code_word (m := ⟨1, 1⟩) (meth := k1m1) (c := k1c1) (by decide +kernel) rfl rfl rfl (by decide +kernel)
set_option maxRecDepth 65536 in
theorem w_c1 : (Jvm.Cond.code ({ cls := "com/example/twigwright/twigwright/PackedColumn", name := "bytesFor", desc := "(I)I" } : Jvm.MethodName) prog_86_method_3_code (2 : Nat) (Option.some Jvm.ClassFile.FieldType.int)).before args0 about1 = true := code_word (m := ⟨2, 0⟩) (meth := k2m0) (c := k2c0) (by decide +kernel) rfl rfl rfl (by decide +kernel)
def codes1 : List Jvm.Cond := [Jvm.Cond.code x code maxLocals ret, Jvm.Cond.code ({ cls := "com/example/twigwright/twigwright/PackedColumn", name := "bytesFor", desc := "(I)I" } : Jvm.MethodName) prog_86_method_3_code (2 : Nat) (Option.some Jvm.ClassFile.FieldType.int)]
set_option maxRecDepth 65536 in
theorem codes_eq : words1.filter isCode = codes1 := rfl
theorem w_codes : ∀ c ∈ words1.filter isCode, c.before args0 about1 = true := by
  rw [codes_eq]
  intro c hc
  simp only [codes1, List.mem_cons, List.not_mem_nil, or_false] at hc
  rcases hc with rfl | rfl
  · exact w_c0
  · exact w_c1
set_option maxRecDepth 65536 in
theorem w_t1 : words1.all (fun c => isCode c || c.before args0 about1) = true := by decide +kernel
theorem w_tables : (allAtoms (Jvm.Cond.code x code maxLocals ret :: tables_1)).before args0 about1 = true := by
  rw [allAtoms_all]
  show words1.all (fun c => c.before args0 about1) = true
  refine all_split ?_ w_codes
  rw [w_t1]
set_option maxRecDepth 65536 in
theorem w_case : (Jvm.Cond.and given_1 narrow_1).before args0 about1 = true := by decide +kernel
theorem w_applies : (headSpec (Jvm.Cond.code x code maxLocals ret :: tables_1) room_1).applies x e0.platform about1 = true :=
  (Spec.applies_iff w_frames).mpr ⟨w_running, w_runnable, w_alone, w_named, w_hears, w_ripe, w_room, w_tables⟩
theorem atStart : AtStart classFile x code maxLocals ret World_1 tables_1 room_1 Calls_1 rest_1 Pre_1 launch0 p0 e0 about1 theMethod args0 below0 :=
  ⟨lists_1, trivial, launch0.admits_env _ _ _, launch0.least_env, fairChoices_fair.cas, fairChoices_fair.clock, w_frames, w_args, w_heap, w_applies, trivial, trivial, w_case⟩
end start1
theorem witness_1 : WitnessClaimed_1 := ⟨start1.p0, start1.e0, start1.about1, start1.theMethod, start1.args0, start1.below0, start1.atStart⟩
end Jvm.Pilot.@@N@@
