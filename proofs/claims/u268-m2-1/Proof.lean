import JvmDerived
import JvmDerived.Pilot.@@N@@Statement
import JvmDerived.Pilot.@@N@@Code
set_option linter.unusedVariables false
set_option linter.unusedSimpArgs false
namespace Jvm.Pilot.@@N@@
open Jvm Jvm.ClassFile Sem Op Lib Jvm.Free Jvm.Stand Jvm.LawKit Jvm.RoadKit Bundle Jvm.Pilot.@@N@@.Jvm.D
/-! own framework: `Ok` = 'from this frame over this heap the body comes to its end with Q'; one lemma an instruction -/
abbrev Wd : Type := Program × Launch × Env × State × MethodId × Array Value × List Frame × Method × Code
abbrev Wd.p (W : Wd) : Program := W.1
abbrev Wd.l (W : Wd) : Launch := W.2.1
abbrev Wd.e (W : Wd) : Env := W.2.2.1
abbrev Wd.s (W : Wd) : State := W.2.2.2.1
abbrev Wd.m (W : Wd) : MethodId := W.2.2.2.2.1
abbrev Wd.args (W : Wd) : Array Value := W.2.2.2.2.2.1
abbrev Wd.below (W : Wd) : List Frame := W.2.2.2.2.2.2.1
abbrev Wd.meth (W : Wd) : Method := W.2.2.2.2.2.2.2.1
abbrev Wd.c (W : Wd) : Code := W.2.2.2.2.2.2.2.2
def Ok (W : Wd) (R : Room) (n0 : Nat) (Q : Option Value → Heap → Prop) (h : Heap) (k n pc : Nat) (Ls : List Slot) (st : List Value) : Prop :=
  ∀ (T : State) (locs : List Loc), Stand W.p W.l W.e R W.s W.m W.args W.below W.meth W.c T locs k n → T.heap = h → Fr n0 locs →
    ∃ s₂ o, Steps W.p.tables W.e W.below (T.setTop (mkF W.m pc Ls.toArray st)) s₂ ∧ s₂.status = .running ∧ Ended s₂ W.below o ∧ ∃ v L, o = .returned v ∧ (Q v s₂.heap ∧ Fr n0 L) ∧ FrameEnd W.s o s₂ L R.cells R.slots
def Cx (W : Wd) (Z : State) (own nm : String) (bc : ByteArray) (maxL : Nat) (rt : Option FieldType) : Prop :=
  W.p.tables.exec = Jvm.exec ∧ Z.Warmed39 W.s.vm ∧ W.c.code = bc ∧ W.c.maxLocals = maxL ∧ W.s.vm.findClass own = some W.m.cls ∧ W.meth.sig.returnType = rt ∧ W.meth.locks = false ∧ W.meth.name = nm
section Own
variable {W : Wd} {R : Room} {n0 : Nat} {Q : Option Value → Heap → Prop} {h : Heap} {k n pc : Nat} {Ls : List Slot} {st : List Value} {Z : State} {own nm : String} {bc : ByteArray} {maxL : Nat} {rt : Option FieldType} {a0 : Array Value}
theorem Ok.back {pc' : Nat} {Ls' : List Slot} {st' : List Value} (g : Ok W R n0 Q h k n pc' Ls' st')
    (hs : ∀ (T : State) (locs : List Loc), Stand W.p W.l W.e R W.s W.m W.args W.below W.meth W.c T locs k n → T.heap = h → ∀ t, Steps W.p.tables W.e W.below (T.setTop (mkF W.m pc' Ls'.toArray st')) t → Steps W.p.tables W.e W.below (T.setTop (mkF W.m pc Ls.toArray st)) t) :
    Ok W R n0 Q h k n pc Ls st := fun T locs X e N => by
  obtain ⟨s₂, o, S, r⟩ := g T locs X e N
  exact ⟨s₂, o, hs T locs X e _ S, r⟩
/-- the same, the state (not its heap) moved -/
theorem Ok.move {pc' : Nat} {Ls' : List Slot} {st' : List Value} (g : Ok W R n0 Q h k n pc' Ls' st')
    (hs : ∀ (T : State) (locs : List Loc), Stand W.p W.l W.e R W.s W.m W.args W.below W.meth W.c T locs k n → T.heap = h → ∃ T', Stand W.p W.l W.e R W.s W.m W.args W.below W.meth W.c T' locs k n ∧ T'.heap = h ∧ ∀ t, Steps W.p.tables W.e W.below (T'.setTop (mkF W.m pc' Ls'.toArray st')) t → Steps W.p.tables W.e W.below (T.setTop (mkF W.m pc Ls.toArray st)) t) :
    Ok W R n0 Q h k n pc Ls st := fun T locs X e N => by
  obtain ⟨T', X', e', st⟩ := hs T locs X e
  obtain ⟨s₂, o, S, r⟩ := g T' locs X' e' N
  exact ⟨s₂, o, st _ S, r⟩
theorem own_get {Ls : List Slot} {i : Nat} {v : Slot} (hl : Ls[i]? = some v) : Ls.toArray[i]? = some v := by simpa using hl
theorem own_store {Ls Ls' : List Slot} {i : Nat} {v : Value} {o : Slot} (hold : Ls[i]? = some o) (ho : One o) (hv : v.category = 1) (hL : Ls.set i (.val v) = Ls') : storeLocals Ls.toArray i v = some Ls'.toArray := by
  rw [XS.store1 (own_get hold) ho hv, ← hL]; simp

theorem Ok.iload (C : Cx W Z own nm bc maxL rt) {i : Nat} {v : Int32} (hd : decode bc pc = .ok (.iload i, 2)) (hl : Ls[i]? = some (.val (.int v))) (q : Nat) (hq : pc + 2 = q) (g : Ok W R n0 Q h k n q Ls (.int v :: st)) : Ok W R n0 Q h k n pc Ls st := by
  subst hq
  exact g.back fun T locs X e t s => XS.iload X.here C.1 rfl (hb C.2.2.1 hd) (own_get hl) s
theorem Ok.iloadN (C : Cx W Z own nm bc maxL rt) {i : Fin 4} {v : Int32} (hd : decode bc pc = .ok (.iload_n i, 1)) (hl : Ls[i.val]? = some (.val (.int v))) (q : Nat) (hq : pc + 1 = q) (g : Ok W R n0 Q h k n q Ls (.int v :: st)) : Ok W R n0 Q h k n pc Ls st := by
  subst hq
  exact g.back fun T locs X e t s => XS.iloadN X.here C.1 rfl (hb C.2.2.1 hd) (own_get hl) s
theorem Ok.lload (C : Cx W Z own nm bc maxL rt) {i : Nat} {v : Int64} (hd : decode bc pc = .ok (.lload i, 2)) (hl : Ls[i]? = some (.val (.long v))) (q : Nat) (hq : pc + 2 = q) (g : Ok W R n0 Q h k n q Ls (.long v :: st)) : Ok W R n0 Q h k n pc Ls st := by
  subst hq
  exact g.back fun T locs X e t s => XS.lload X.here C.1 rfl (hb C.2.2.1 hd) (own_get hl) s
theorem Ok.lloadN (C : Cx W Z own nm bc maxL rt) {i : Fin 4} {v : Int64} (hd : decode bc pc = .ok (.lload_n i, 1)) (hl : Ls[i.val]? = some (.val (.long v))) (q : Nat) (hq : pc + 1 = q) (g : Ok W R n0 Q h k n q Ls (.long v :: st)) : Ok W R n0 Q h k n pc Ls st := by
  subst hq
  exact g.back fun T locs X e t s => XS.lloadN X.here C.1 rfl (hb C.2.2.1 hd) (own_get hl) s
theorem Ok.aload (C : Cx W Z own nm bc maxL rt) {i : Nat} {v : Addr} (hd : decode bc pc = .ok (.aload i, 2)) (hl : Ls[i]? = some (.val (.ref v))) (q : Nat) (hq : pc + 2 = q) (g : Ok W R n0 Q h k n q Ls (.ref v :: st)) : Ok W R n0 Q h k n pc Ls st := by
  subst hq
  exact g.back fun T locs X e t s => XS.aload X.here C.1 rfl (hb C.2.2.1 hd) (own_get hl) rfl s
theorem Ok.aloadN (C : Cx W Z own nm bc maxL rt) {i : Fin 4} {v : Addr} (hd : decode bc pc = .ok (.aload_n i, 1)) (hl : Ls[i.val]? = some (.val (.ref v))) (q : Nat) (hq : pc + 1 = q) (g : Ok W R n0 Q h k n q Ls (.ref v :: st)) : Ok W R n0 Q h k n pc Ls st := by
  subst hq
  exact g.back fun T locs X e t s => XS.aloadN X.here C.1 rfl (hb C.2.2.1 hd) (own_get hl) rfl s
theorem Ok.istore (C : Cx W Z own nm bc maxL rt) {i : Nat} {x : Int32} {o : Slot} (hd : decode bc pc = .ok (.istore i, 2)) (hold : Ls[i]? = some o) (ho : One o) (Ls' : List Slot) (hL : Ls.set i (.val (.int x)) = Ls') (q : Nat) (hq : pc + 2 = q) (g : Ok W R n0 Q h k n q Ls' st) : Ok W R n0 Q h k n pc Ls (.int x :: st) := by
  subst hq
  exact g.back fun T locs X e t s => XS.istore X.here C.1 rfl (hb C.2.2.1 hd) rfl (own_store hold ho rfl hL) s
theorem Ok.istoreN (C : Cx W Z own nm bc maxL rt) {i : Fin 4} {x : Int32} {o : Slot} (hd : decode bc pc = .ok (.istore_n i, 1)) (hold : Ls[i.val]? = some o) (ho : One o) (Ls' : List Slot) (hL : Ls.set i.val (.val (.int x)) = Ls') (q : Nat) (hq : pc + 1 = q) (g : Ok W R n0 Q h k n q Ls' st) : Ok W R n0 Q h k n pc Ls (.int x :: st) := by
  subst hq
  exact g.back fun T locs X e t s => XS.istoreN X.here C.1 rfl (hb C.2.2.1 hd) rfl (own_store hold ho rfl hL) s
theorem Ok.astore (C : Cx W Z own nm bc maxL rt) {i : Nat} {x : Addr} {o : Slot} (hd : decode bc pc = .ok (.astore i, 2)) (hold : Ls[i]? = some o) (ho : One o) (Ls' : List Slot) (hL : Ls.set i (.val (.ref x)) = Ls') (q : Nat) (hq : pc + 2 = q) (g : Ok W R n0 Q h k n q Ls' st) : Ok W R n0 Q h k n pc Ls (.ref x :: st) := by
  subst hq
  exact g.back fun T locs X e t s => XS.astore X.here C.1 rfl (hb C.2.2.1 hd) rfl rfl (own_store hold ho rfl hL) s
theorem Ok.astoreN (C : Cx W Z own nm bc maxL rt) {i : Fin 4} {x : Addr} {o : Slot} (hd : decode bc pc = .ok (.astore_n i, 1)) (hold : Ls[i.val]? = some o) (ho : One o) (Ls' : List Slot) (hL : Ls.set i.val (.val (.ref x)) = Ls') (q : Nat) (hq : pc + 1 = q) (g : Ok W R n0 Q h k n q Ls' st) : Ok W R n0 Q h k n pc Ls (.ref x :: st) := by
  subst hq
  exact g.back fun T locs X e t s => XS.astoreN X.here C.1 rfl (hb C.2.2.1 hd) rfl rfl (own_store hold ho rfl hL) s
theorem Ok.lstore (C : Cx W Z own nm bc maxL rt) {i : Nat} {x : Int64} (hd : decode bc pc = .ok (.lstore i, 2)) (Ls' : List Slot) (hL : storeLocals Ls.toArray i (.long x) = some Ls'.toArray) (q : Nat) (hq : pc + 2 = q) (g : Ok W R n0 Q h k n q Ls' st) : Ok W R n0 Q h k n pc Ls (.long x :: st) := by
  subst hq
  exact g.back fun T locs X e t s => XS.lstore X.here C.1 rfl (hb C.2.2.1 hd) rfl hL s
theorem Ok.lstoreN (C : Cx W Z own nm bc maxL rt) {i : Fin 4} {x : Int64} (hd : decode bc pc = .ok (.lstore_n i, 1)) (Ls' : List Slot) (hL : storeLocals Ls.toArray i.val (.long x) = some Ls'.toArray) (q : Nat) (hq : pc + 1 = q) (g : Ok W R n0 Q h k n q Ls' st) : Ok W R n0 Q h k n pc Ls (.long x :: st) := by
  subst hq
  exact g.back fun T locs X e t s => XS.lstoreN X.here C.1 rfl (hb C.2.2.1 hd) rfl hL s
theorem Ok.iconst (C : Cx W Z own nm bc maxL rt) {i : Int} (hd : decode bc pc = .ok (.iconst i, 1)) (q : Nat) (hq : pc + 1 = q) (z : Int32) (hz : Int32.ofInt i = z) (g : Ok W R n0 Q h k n q Ls (.int z :: st)) : Ok W R n0 Q h k n pc Ls st := by
  subst hq hz
  exact g.back fun T locs X e t s => XS.iconst X.here C.1 rfl (hb C.2.2.1 hd) s
theorem Ok.bipush (C : Cx W Z own nm bc maxL rt) {i : Int} (hd : decode bc pc = .ok (.bipush i, 2)) (q : Nat) (hq : pc + 2 = q) (z : Int32) (hz : (Int8.ofInt i).toInt32 = z) (g : Ok W R n0 Q h k n q Ls (.int z :: st)) : Ok W R n0 Q h k n pc Ls st := by
  subst hq hz
  exact g.back fun T locs X e t s => XS.bipush X.here C.1 rfl (hb C.2.2.1 hd) s
theorem Ok.sipush (C : Cx W Z own nm bc maxL rt) {i : Int} (hd : decode bc pc = .ok (.sipush i, 3)) (q : Nat) (hq : pc + 3 = q) (z : Int32) (hz : (Int16.ofInt i).toInt32 = z) (g : Ok W R n0 Q h k n q Ls (.int z :: st)) : Ok W R n0 Q h k n pc Ls st := by
  subst hq hz
  exact g.back fun T locs X e t s => XS.sipush X.here C.1 rfl (hb C.2.2.1 hd) s
theorem Ok.lconst (C : Cx W Z own nm bc maxL rt) {i : Fin 2} (hd : decode bc pc = .ok (.lconst i, 1)) (q : Nat) (hq : pc + 1 = q) (z : Int64) (hz : Int64.ofNat i = z) (g : Ok W R n0 Q h k n q Ls (.long z :: st)) : Ok W R n0 Q h k n pc Ls st := by
  subst hq hz
  exact g.back fun T locs X e t s => XS.lconst X.here C.1 rfl (hb C.2.2.1 hd) s
theorem Ok.ldc (C : Cx W Z own nm bc maxL rt) {i : Nat} {v : Int32} (w : (Jvm.Cond.constant own i v).before a0 Z = true) (hd : decode bc pc = .ok (.ldc i, 2)) (q : Nat) (hq : pc + 2 = q) (g : Ok W R n0 Q h k n q Ls (.int v :: st)) : Ok W R n0 Q h k n pc Ls st := by
  subst hq
  exact g.back fun T locs X e t s => X.ldcInt C.1 C.2.2.2.2.1 (mvT C.2.1 w) (g := mkF W.m pc Ls.toArray st) rfl (hb C.2.2.1 hd) t s
theorem Ok.ldc2 (C : Cx W Z own nm bc maxL rt) {i : Nat} {v : Int64} (w : (Jvm.Cond.constantLong own i v).before a0 Z = true) (hd : decode bc pc = .ok (.ldc2_w i, 3)) (q : Nat) (hq : pc + 3 = q) (g : Ok W R n0 Q h k n q Ls (.long v :: st)) : Ok W R n0 Q h k n pc Ls st := by
  subst hq
  exact g.back fun T locs X e t s => X.ldc2Long C.1 C.2.2.2.2.1 (mvT C.2.1 w) (g := mkF W.m pc Ls.toArray st) rfl (hb C.2.2.1 hd) t s
theorem Ok.iadd (C : Cx W Z own nm bc maxL rt) {x : Int32} {y : Int32} (hd : decode bc pc = .ok (.iadd, 1)) (q : Nat) (hq : pc + 1 = q) (g : ∀ z, z = x + y → Ok W R n0 Q h k n q Ls (.int z :: st)) : Ok W R n0 Q h k n pc Ls (.int y :: .int x :: st) := by
  subst hq
  exact (g _ rfl).back fun T locs X e t s => XS.iadd X.here C.1 rfl (hb C.2.2.1 hd) rfl s
theorem Ok.isub (C : Cx W Z own nm bc maxL rt) {x : Int32} {y : Int32} (hd : decode bc pc = .ok (.isub, 1)) (q : Nat) (hq : pc + 1 = q) (g : ∀ z, z = x - y → Ok W R n0 Q h k n q Ls (.int z :: st)) : Ok W R n0 Q h k n pc Ls (.int y :: .int x :: st) := by
  subst hq
  exact (g _ rfl).back fun T locs X e t s => XS.isub X.here C.1 rfl (hb C.2.2.1 hd) rfl s
theorem Ok.imul (C : Cx W Z own nm bc maxL rt) {x : Int32} {y : Int32} (hd : decode bc pc = .ok (.imul, 1)) (q : Nat) (hq : pc + 1 = q) (g : ∀ z, z = x * y → Ok W R n0 Q h k n q Ls (.int z :: st)) : Ok W R n0 Q h k n pc Ls (.int y :: .int x :: st) := by
  subst hq
  exact (g _ rfl).back fun T locs X e t s => XS.imul X.here C.1 rfl (hb C.2.2.1 hd) rfl s
theorem Ok.iand (C : Cx W Z own nm bc maxL rt) {x : Int32} {y : Int32} (hd : decode bc pc = .ok (.iand, 1)) (q : Nat) (hq : pc + 1 = q) (g : ∀ z, z = x &&& y → Ok W R n0 Q h k n q Ls (.int z :: st)) : Ok W R n0 Q h k n pc Ls (.int y :: .int x :: st) := by
  subst hq
  exact (g _ rfl).back fun T locs X e t s => XS.iand X.here C.1 rfl (hb C.2.2.1 hd) rfl s
theorem Ok.ior (C : Cx W Z own nm bc maxL rt) {x : Int32} {y : Int32} (hd : decode bc pc = .ok (.ior, 1)) (q : Nat) (hq : pc + 1 = q) (g : ∀ z, z = x ||| y → Ok W R n0 Q h k n q Ls (.int z :: st)) : Ok W R n0 Q h k n pc Ls (.int y :: .int x :: st) := by
  subst hq
  exact (g _ rfl).back fun T locs X e t s => XS.ior X.here C.1 rfl (hb C.2.2.1 hd) rfl s
theorem Ok.ixor (C : Cx W Z own nm bc maxL rt) {x : Int32} {y : Int32} (hd : decode bc pc = .ok (.ixor, 1)) (q : Nat) (hq : pc + 1 = q) (g : ∀ z, z = x ^^^ y → Ok W R n0 Q h k n q Ls (.int z :: st)) : Ok W R n0 Q h k n pc Ls (.int y :: .int x :: st) := by
  subst hq
  exact (g _ rfl).back fun T locs X e t s => XS.ixor X.here C.1 rfl (hb C.2.2.1 hd) rfl s
theorem Ok.ishl (C : Cx W Z own nm bc maxL rt) {x : Int32} {y : Int32} (hd : decode bc pc = .ok (.ishl, 1)) (q : Nat) (hq : pc + 1 = q) (g : ∀ z, z = x <<< (y &&& 31) → Ok W R n0 Q h k n q Ls (.int z :: st)) : Ok W R n0 Q h k n pc Ls (.int y :: .int x :: st) := by
  subst hq
  exact (g _ rfl).back fun T locs X e t s => XS.ishl X.here C.1 rfl (hb C.2.2.1 hd) rfl s
theorem Ok.ishr (C : Cx W Z own nm bc maxL rt) {x : Int32} {y : Int32} (hd : decode bc pc = .ok (.ishr, 1)) (q : Nat) (hq : pc + 1 = q) (g : ∀ z, z = x >>> (y &&& 31) → Ok W R n0 Q h k n q Ls (.int z :: st)) : Ok W R n0 Q h k n pc Ls (.int y :: .int x :: st) := by
  subst hq
  exact (g _ rfl).back fun T locs X e t s => XS.ishr X.here C.1 rfl (hb C.2.2.1 hd) rfl s
theorem Ok.iushr (C : Cx W Z own nm bc maxL rt) {x : Int32} {y : Int32} (hd : decode bc pc = .ok (.iushr, 1)) (q : Nat) (hq : pc + 1 = q) (g : ∀ z, z = (x.toUInt32 >>> (y &&& 31).toUInt32).toInt32 → Ok W R n0 Q h k n q Ls (.int z :: st)) : Ok W R n0 Q h k n pc Ls (.int y :: .int x :: st) := by
  subst hq
  exact (g _ rfl).back fun T locs X e t s => XS.iushr X.here C.1 rfl (hb C.2.2.1 hd) rfl s
theorem Ok.ladd (C : Cx W Z own nm bc maxL rt) {x : Int64} {y : Int64} (hd : decode bc pc = .ok (.ladd, 1)) (q : Nat) (hq : pc + 1 = q) (g : ∀ z, z = x + y → Ok W R n0 Q h k n q Ls (.long z :: st)) : Ok W R n0 Q h k n pc Ls (.long y :: .long x :: st) := by
  subst hq
  exact (g _ rfl).back fun T locs X e t s => XS.ladd X.here C.1 rfl (hb C.2.2.1 hd) rfl s
theorem Ok.lsub (C : Cx W Z own nm bc maxL rt) {x : Int64} {y : Int64} (hd : decode bc pc = .ok (.lsub, 1)) (q : Nat) (hq : pc + 1 = q) (g : ∀ z, z = x - y → Ok W R n0 Q h k n q Ls (.long z :: st)) : Ok W R n0 Q h k n pc Ls (.long y :: .long x :: st) := by
  subst hq
  exact (g _ rfl).back fun T locs X e t s => XS.lsub X.here C.1 rfl (hb C.2.2.1 hd) rfl s
theorem Ok.lmul (C : Cx W Z own nm bc maxL rt) {x : Int64} {y : Int64} (hd : decode bc pc = .ok (.lmul, 1)) (q : Nat) (hq : pc + 1 = q) (g : ∀ z, z = x * y → Ok W R n0 Q h k n q Ls (.long z :: st)) : Ok W R n0 Q h k n pc Ls (.long y :: .long x :: st) := by
  subst hq
  exact (g _ rfl).back fun T locs X e t s => XS.lmul X.here C.1 rfl (hb C.2.2.1 hd) rfl s
theorem Ok.land (C : Cx W Z own nm bc maxL rt) {x : Int64} {y : Int64} (hd : decode bc pc = .ok (.land, 1)) (q : Nat) (hq : pc + 1 = q) (g : ∀ z, z = x &&& y → Ok W R n0 Q h k n q Ls (.long z :: st)) : Ok W R n0 Q h k n pc Ls (.long y :: .long x :: st) := by
  subst hq
  exact (g _ rfl).back fun T locs X e t s => XS.land X.here C.1 rfl (hb C.2.2.1 hd) rfl s
theorem Ok.lor (C : Cx W Z own nm bc maxL rt) {x : Int64} {y : Int64} (hd : decode bc pc = .ok (.lor, 1)) (q : Nat) (hq : pc + 1 = q) (g : ∀ z, z = x ||| y → Ok W R n0 Q h k n q Ls (.long z :: st)) : Ok W R n0 Q h k n pc Ls (.long y :: .long x :: st) := by
  subst hq
  exact (g _ rfl).back fun T locs X e t s => XS.lor X.here C.1 rfl (hb C.2.2.1 hd) rfl s
theorem Ok.lxor (C : Cx W Z own nm bc maxL rt) {x : Int64} {y : Int64} (hd : decode bc pc = .ok (.lxor, 1)) (q : Nat) (hq : pc + 1 = q) (g : ∀ z, z = x ^^^ y → Ok W R n0 Q h k n q Ls (.long z :: st)) : Ok W R n0 Q h k n pc Ls (.long y :: .long x :: st) := by
  subst hq
  exact (g _ rfl).back fun T locs X e t s => XS.lxor X.here C.1 rfl (hb C.2.2.1 hd) rfl s
theorem Ok.lshl (C : Cx W Z own nm bc maxL rt) {x : Int64} {y : Int32} (hd : decode bc pc = .ok (.lshl, 1)) (q : Nat) (hq : pc + 1 = q) (g : ∀ z, z = x <<< (y &&& 0x3f).toInt64 → Ok W R n0 Q h k n q Ls (.long z :: st)) : Ok W R n0 Q h k n pc Ls (.int y :: .long x :: st) := by
  subst hq
  exact (g _ rfl).back fun T locs X e t s => XS.lshl X.here C.1 rfl (hb C.2.2.1 hd) rfl s
theorem Ok.lushr (C : Cx W Z own nm bc maxL rt) {x : Int64} {y : Int32} (hd : decode bc pc = .ok (.lushr, 1)) (q : Nat) (hq : pc + 1 = q) (g : ∀ z, z = (x.toUInt64 >>> (y &&& 0x3f).toInt64.toUInt64).toInt64 → Ok W R n0 Q h k n q Ls (.long z :: st)) : Ok W R n0 Q h k n pc Ls (.int y :: .long x :: st) := by
  subst hq
  exact (g _ rfl).back fun T locs X e t s => XS.lushr X.here C.1 rfl (hb C.2.2.1 hd) rfl s
theorem Ok.idiv (C : Cx W Z own nm bc maxL rt) {x y : Int32} (hd : decode bc pc = .ok (.idiv, 1)) (hy : y ≠ 0) (q : Nat) (hq : pc + 1 = q) (g : ∀ z, z = x / y → Ok W R n0 Q h k n q Ls (.int z :: st)) : Ok W R n0 Q h k n pc Ls (.int y :: .int x :: st) := by
  subst hq
  exact (g _ rfl).back fun T locs X e t s => XS.idiv X.here C.1 rfl (hb C.2.2.1 hd) rfl hy s
theorem Ok.ldiv (C : Cx W Z own nm bc maxL rt) {x y : Int64} (hd : decode bc pc = .ok (.ldiv, 1)) (hy : y ≠ 0) (q : Nat) (hq : pc + 1 = q) (g : ∀ z, z = x / y → Ok W R n0 Q h k n q Ls (.long z :: st)) : Ok W R n0 Q h k n pc Ls (.long y :: .long x :: st) := by
  subst hq
  exact (g _ rfl).back fun T locs X e t s => XS.ldiv X.here C.1 rfl (hb C.2.2.1 hd) rfl hy s
theorem Ok.irem (C : Cx W Z own nm bc maxL rt) {x y : Int32} (hd : decode bc pc = .ok (.irem, 1)) (hy : y ≠ 0) (q : Nat) (hq : pc + 1 = q) (g : ∀ z, z = x % y → Ok W R n0 Q h k n q Ls (.int z :: st)) : Ok W R n0 Q h k n pc Ls (.int y :: .int x :: st) := by
  subst hq
  exact (g _ rfl).back fun T locs X e t s => iremM X C.1 rfl (hb C.2.2.1 hd) rfl hy s
theorem Ok.lrem (C : Cx W Z own nm bc maxL rt) {x y : Int64} (hd : decode bc pc = .ok (.lrem, 1)) (hy : y ≠ 0) (q : Nat) (hq : pc + 1 = q) (g : ∀ z, z = x % y → Ok W R n0 Q h k n q Ls (.long z :: st)) : Ok W R n0 Q h k n pc Ls (.long y :: .long x :: st) := by
  subst hq
  have g := g _ (lrem_mod x y)
  exact g.back fun T locs X e t s => XS.lrem X.here C.1 rfl (hb C.2.2.1 hd) rfl hy s
theorem Ok.i2l (C : Cx W Z own nm bc maxL rt) {x : Int32} (hd : decode bc pc = .ok (.i2l, 1)) (q : Nat) (hq : pc + 1 = q) (g : ∀ z, z = x.toInt64 → Ok W R n0 Q h k n q Ls (.long z :: st)) : Ok W R n0 Q h k n pc Ls (.int x :: st) := by
  subst hq
  exact (g _ rfl).back fun T locs X e t s => XS.i2l X.here C.1 rfl (hb C.2.2.1 hd) rfl s
theorem Ok.l2i (C : Cx W Z own nm bc maxL rt) {x : Int64} (hd : decode bc pc = .ok (.l2i, 1)) (q : Nat) (hq : pc + 1 = q) (g : ∀ z, z = x.toInt32 → Ok W R n0 Q h k n q Ls (.int z :: st)) : Ok W R n0 Q h k n pc Ls (.long x :: st) := by
  subst hq
  exact (g _ rfl).back fun T locs X e t s => XS.l2i X.here C.1 rfl (hb C.2.2.1 hd) rfl s
theorem Ok.i2b (C : Cx W Z own nm bc maxL rt) {x : Int32} (hd : decode bc pc = .ok (.i2b, 1)) (q : Nat) (hq : pc + 1 = q) (g : ∀ z, z = x.toInt8.toInt32 → Ok W R n0 Q h k n q Ls (.int z :: st)) : Ok W R n0 Q h k n pc Ls (.int x :: st) := by
  subst hq
  exact (g _ rfl).back fun T locs X e t s => XS.i2b X.here C.1 rfl (hb C.2.2.1 hd) rfl s
theorem Ok.ineg (C : Cx W Z own nm bc maxL rt) {x : Int32} (hd : decode bc pc = .ok (.ineg, 1)) (q : Nat) (hq : pc + 1 = q) (g : ∀ z, z = -x → Ok W R n0 Q h k n q Ls (.int z :: st)) : Ok W R n0 Q h k n pc Ls (.int x :: st) := by
  subst hq
  exact (g _ rfl).back fun T locs X e t s => XS.ineg X.here C.1 rfl (hb C.2.2.1 hd) rfl s
theorem Ok.lneg (C : Cx W Z own nm bc maxL rt) {x : Int64} (hd : decode bc pc = .ok (.lneg, 1)) (q : Nat) (hq : pc + 1 = q) (g : ∀ z, z = -x → Ok W R n0 Q h k n q Ls (.long z :: st)) : Ok W R n0 Q h k n pc Ls (.long x :: st) := by
  subst hq
  exact (g _ rfl).back fun T locs X e t s => XS.lneg X.here C.1 rfl (hb C.2.2.1 hd) rfl s
theorem Ok.iinc (C : Cx W Z own nm bc maxL rt) {i : Nat} {cst : Int} {x : Int32} (hd : decode bc pc = .ok (.iinc i cst, 3)) (hl : Ls[i]? = some (.val (.int x))) (z : Int32) (hz : Int32.ofInt cst = z) (Ls' : Int32 → List Slot) (hL : ∀ y, Ls.set i (.val (.int y)) = Ls' y) (q : Nat) (hq : pc + 3 = q) (g : ∀ y, y = x + z → Ok W R n0 Q h k n q (Ls' y) st) : Ok W R n0 Q h k n pc Ls st := by
  subst hq hz
  exact (g _ rfl).back fun T locs X e t s => XS.iinc X.here C.1 rfl (hb C.2.2.1 hd) (own_get hl) (own_store hl (One.val rfl) rfl (hL _)) s
theorem Ok.dup (C : Cx W Z own nm bc maxL rt) {x : Value} (hd : decode bc pc = .ok (.dup, 1)) (hc : x.category = 1) (q : Nat) (hq : pc + 1 = q) (g : Ok W R n0 Q h k n q Ls (x :: x :: st)) : Ok W R n0 Q h k n pc Ls (x :: st) := by
  subst hq
  exact g.back fun T locs X e t s => XS.dup X.here C.1 rfl (hb C.2.2.1 hd) rfl hc s
theorem Ok.pop (C : Cx W Z own nm bc maxL rt) {x : Value} (hd : decode bc pc = .ok (.pop, 1)) (hc : x.category = 1) (q : Nat) (hq : pc + 1 = q) (g : Ok W R n0 Q h k n q Ls st) : Ok W R n0 Q h k n pc Ls (x :: st) := by
  subst hq
  exact g.back fun T locs X e t s => XS.pop X.here C.1 rfl (hb C.2.2.1 hd) rfl hc s
theorem Ok.dupX1 (C : Cx W Z own nm bc maxL rt) {x y : Value} (hd : decode bc pc = .ok (.dup_x1, 1)) (hc : x.category = 1) (hc2 : y.category = 1) (q : Nat) (hq : pc + 1 = q) (g : Ok W R n0 Q h k n q Ls (x :: y :: x :: st)) : Ok W R n0 Q h k n pc Ls (x :: y :: st) := by
  subst hq
  exact g.back fun T locs X e t s => XS.dupX1 X.here C.1 rfl (hb C.2.2.1 hd) rfl hc hc2 s
theorem Ok.dup2 (C : Cx W Z own nm bc maxL rt) {x y : Value} (hd : decode bc pc = .ok (.dup2, 1)) (hc : x.category = 1) (hc2 : y.category = 1) (q : Nat) (hq : pc + 1 = q) (g : Ok W R n0 Q h k n q Ls (x :: y :: x :: y :: st)) : Ok W R n0 Q h k n pc Ls (x :: y :: st) := by
  subst hq
  exact g.back fun T locs X e t s => by
    have hd' := hb C.2.2.1 hd
    have hx := C.1
    show Steps _ _ _ (T.setTop { method := W.m, pc := pc, locals := Ls.toArray, stack := x :: y :: st, locked := none }) _
    jvm_step X.here [X.here.top, hx, hd', hc, hc2]
    exact s
theorem Ok.dupX2 (C : Cx W Z own nm bc maxL rt) {x y z : Value} (hd : decode bc pc = .ok (.dup_x2, 1)) (hc : x.category = 1) (hc2 : y.category = 1) (hc3 : z.category = 1) (q : Nat) (hq : pc + 1 = q) (g : Ok W R n0 Q h k n q Ls (x :: y :: z :: x :: st)) : Ok W R n0 Q h k n pc Ls (x :: y :: z :: st) := by
  subst hq
  exact g.back fun T locs X e t s => by
    have hd' := hb C.2.2.1 hd
    have hx := C.1
    show Steps _ _ _ (T.setTop { method := W.m, pc := pc, locals := Ls.toArray, stack := x :: y :: z :: st, locked := none }) _
    jvm_step X.here [X.here.top, hx, hd', hc, hc2, hc3]
    exact s
theorem Ok.goto (C : Cx W Z own nm bc maxL rt) {o : Int} (hd : decode bc pc = .ok (.goto o, 3)) (q : Nat) (hq : (pc : Int) + o = q) (g : Ok W R n0 Q h k n q Ls st) : Ok W R n0 Q h k n pc Ls st :=
  g.back fun T locs X e t s => XS.goto X.here C.1 rfl (pc0 := pc) (pc' := q) rfl (hb C.2.2.1 hd) (by omega) (by omega) s
theorem Ok.icmpB (C : Cx W Z own nm bc maxL rt) {cd : ClassFile.Cond} {x y : Int32} {o : Int} (hd : decode bc pc = .ok (.if_icmp cd o, 3)) (t q : Nat) (ht : (pc : Int) + o = t) (hq : pc + 3 = q) (g1 : if_icmp.holds cd x y = true → Ok W R n0 Q h k n t Ls st) (g2 : if_icmp.holds cd x y = false → Ok W R n0 Q h k n q Ls st) : Ok W R n0 Q h k n pc Ls (.int y :: .int x :: st) := by
  subst hq
  cases hc : if_icmp.holds cd x y
  · exact (g2 hc).back fun T locs X e t s => XS.icmpNo X.here C.1 rfl (hb C.2.2.1 hd) rfl hc s
  · exact (g1 hc).back fun T locs X e t' s => XS.icmpYes X.here C.1 rfl (pc0 := pc) (pc' := t) rfl (hb C.2.2.1 hd) rfl hc (by omega) (by omega) s
theorem Ok.ifB (C : Cx W Z own nm bc maxL rt) {cd : ClassFile.Cond} {x : Int32} {o : Int} (hd : decode bc pc = .ok (.ifCond cd o, 3)) (t q : Nat) (ht : (pc : Int) + o = t) (hq : pc + 3 = q) (g1 : if_icmp.holds cd x 0 = true → Ok W R n0 Q h k n t Ls st) (g2 : if_icmp.holds cd x 0 = false → Ok W R n0 Q h k n q Ls st) : Ok W R n0 Q h k n pc Ls (.int x :: st) := by
  subst hq
  cases hc : if_icmp.holds cd x 0
  · exact (g2 hc).back fun T locs X e t s => XS.ifNo X.here C.1 rfl (hb C.2.2.1 hd) rfl ((if0 _ _).trans hc) s
  · exact (g1 hc).back fun T locs X e t' s => XS.ifYes X.here C.1 rfl (pc0 := pc) (pc' := t) rfl (hb C.2.2.1 hd) rfl ((if0 _ _).trans hc) (by omega) (by omega) s
theorem Ok.lcmp (C : Cx W Z own nm bc maxL rt) {x y : Int64} (hd : decode bc pc = .ok (.lcmp, 1)) (q : Nat) (hq : pc + 1 = q) (g : Ok W R n0 Q h k n q Ls (.int (lcmpW x y) :: st)) : Ok W R n0 Q h k n pc Ls (.long y :: .long x :: st) := by
  subst hq
  exact g.back fun T locs X e t s => XS.lcmp X.here C.1 rfl (hb C.2.2.1 hd) rfl s
theorem h_lt {x y : Int32} : (if_icmp.holds .lt x y = true → x.toInt < y.toInt) ∧ (if_icmp.holds .lt x y = false → y.toInt ≤ x.toInt) := by simp [if_icmp.holds, Int32.lt_iff_toInt_lt]
theorem h_ge {x y : Int32} : (if_icmp.holds .ge x y = true → y.toInt ≤ x.toInt) ∧ (if_icmp.holds .ge x y = false → x.toInt < y.toInt) := by simp [if_icmp.holds, Int32.le_iff_toInt_le]
theorem h_gt {x y : Int32} : (if_icmp.holds .gt x y = true → y.toInt < x.toInt) ∧ (if_icmp.holds .gt x y = false → x.toInt ≤ y.toInt) := by simp [if_icmp.holds, Int32.lt_iff_toInt_lt]
theorem h_le {x y : Int32} : (if_icmp.holds .le x y = true → x.toInt ≤ y.toInt) ∧ (if_icmp.holds .le x y = false → y.toInt < x.toInt) := by simp [if_icmp.holds, Int32.le_iff_toInt_le]
theorem h_eq {x y : Int32} : (if_icmp.holds .eq x y = true → x.toInt = y.toInt) ∧ (if_icmp.holds .eq x y = false → x.toInt ≠ y.toInt) := by simp [if_icmp.holds, Int32.toInt_inj]
theorem h_ne {x y : Int32} : (if_icmp.holds .ne x y = true → x.toInt ≠ y.toInt) ∧ (if_icmp.holds .ne x y = false → x.toInt = y.toInt) := by simp [if_icmp.holds, Int32.toInt_inj]
theorem lw_z (x y : Int64) : (lcmpW x y).toInt = 1 ∧ y.toInt < x.toInt ∨ (lcmpW x y).toInt = 0 ∧ x.toInt = y.toInt ∨ (lcmpW x y).toInt = -1 ∧ x.toInt < y.toInt := by
  obtain ⟨a, b, c⟩ := c_lcmp x y
  by_cases h1 : x.toInt < y.toInt
  · exact Or.inr (Or.inr ⟨a h1, h1⟩)
  · by_cases h2 : x.toInt = y.toInt
    · exact Or.inr (Or.inl ⟨b h2, h2⟩)
    · exact Or.inl ⟨c (by omega), by omega⟩
theorem z32 : (0 : Int32).toInt = 0 := rfl
theorem Ok.icmp_lt (C : Cx W Z own nm bc maxL rt) {x y : Int32} {o : Int} (hd : decode bc pc = .ok (.if_icmp .lt o, 3)) (t q : Nat) (ht : (pc : Int) + o = t) (hq : pc + 3 = q) (g1 : x.toInt < y.toInt → Ok W R n0 Q h k n t Ls st) (g2 : y.toInt ≤ x.toInt → Ok W R n0 Q h k n q Ls st) : Ok W R n0 Q h k n pc Ls (.int y :: .int x :: st) :=
  Ok.icmpB C hd t q ht hq (fun z => g1 (h_lt.1 z)) (fun z => g2 (h_lt.2 z))
theorem Ok.if_lt (C : Cx W Z own nm bc maxL rt) {x : Int32} {o : Int} (hd : decode bc pc = .ok (.ifCond .lt o, 3)) (t q : Nat) (ht : (pc : Int) + o = t) (hq : pc + 3 = q) (g1 : x.toInt < 0 → Ok W R n0 Q h k n t Ls st) (g2 : 0 ≤ x.toInt → Ok W R n0 Q h k n q Ls st) : Ok W R n0 Q h k n pc Ls (.int x :: st) :=
  Ok.ifB C hd t q ht hq (fun z => g1 (h_lt.1 z)) (fun z => g2 (h_lt.2 z))
theorem Ok.lcmp_lt (C : Cx W Z own nm bc maxL rt) {x y : Int64} {o : Int} (hd0 : decode bc pc = .ok (.lcmp, 1)) (hd : decode bc (pc + 1) = .ok (.ifCond .lt o, 3)) (t q : Nat) (ht : ((pc + 1 : Nat) : Int) + o = t) (hq : pc + 1 + 3 = q) (g1 : x.toInt < y.toInt → Ok W R n0 Q h k n t Ls st) (g2 : y.toInt ≤ x.toInt → Ok W R n0 Q h k n q Ls st) : Ok W R n0 Q h k n pc Ls (.long y :: .long x :: st) :=
  Ok.lcmp C hd0 _ rfl (Ok.if_lt C hd t q ht hq (fun z => g1 (by have := lw_z x y; omega)) (fun z => g2 (by have := lw_z x y; omega)))
theorem Ok.icmp_ge (C : Cx W Z own nm bc maxL rt) {x y : Int32} {o : Int} (hd : decode bc pc = .ok (.if_icmp .ge o, 3)) (t q : Nat) (ht : (pc : Int) + o = t) (hq : pc + 3 = q) (g1 : y.toInt ≤ x.toInt → Ok W R n0 Q h k n t Ls st) (g2 : x.toInt < y.toInt → Ok W R n0 Q h k n q Ls st) : Ok W R n0 Q h k n pc Ls (.int y :: .int x :: st) :=
  Ok.icmpB C hd t q ht hq (fun z => g1 (h_ge.1 z)) (fun z => g2 (h_ge.2 z))
theorem Ok.if_ge (C : Cx W Z own nm bc maxL rt) {x : Int32} {o : Int} (hd : decode bc pc = .ok (.ifCond .ge o, 3)) (t q : Nat) (ht : (pc : Int) + o = t) (hq : pc + 3 = q) (g1 : 0 ≤ x.toInt → Ok W R n0 Q h k n t Ls st) (g2 : x.toInt < 0 → Ok W R n0 Q h k n q Ls st) : Ok W R n0 Q h k n pc Ls (.int x :: st) :=
  Ok.ifB C hd t q ht hq (fun z => g1 (h_ge.1 z)) (fun z => g2 (h_ge.2 z))
theorem Ok.lcmp_ge (C : Cx W Z own nm bc maxL rt) {x y : Int64} {o : Int} (hd0 : decode bc pc = .ok (.lcmp, 1)) (hd : decode bc (pc + 1) = .ok (.ifCond .ge o, 3)) (t q : Nat) (ht : ((pc + 1 : Nat) : Int) + o = t) (hq : pc + 1 + 3 = q) (g1 : y.toInt ≤ x.toInt → Ok W R n0 Q h k n t Ls st) (g2 : x.toInt < y.toInt → Ok W R n0 Q h k n q Ls st) : Ok W R n0 Q h k n pc Ls (.long y :: .long x :: st) :=
  Ok.lcmp C hd0 _ rfl (Ok.if_ge C hd t q ht hq (fun z => g1 (by have := lw_z x y; omega)) (fun z => g2 (by have := lw_z x y; omega)))
theorem Ok.icmp_gt (C : Cx W Z own nm bc maxL rt) {x y : Int32} {o : Int} (hd : decode bc pc = .ok (.if_icmp .gt o, 3)) (t q : Nat) (ht : (pc : Int) + o = t) (hq : pc + 3 = q) (g1 : y.toInt < x.toInt → Ok W R n0 Q h k n t Ls st) (g2 : x.toInt ≤ y.toInt → Ok W R n0 Q h k n q Ls st) : Ok W R n0 Q h k n pc Ls (.int y :: .int x :: st) :=
  Ok.icmpB C hd t q ht hq (fun z => g1 (h_gt.1 z)) (fun z => g2 (h_gt.2 z))
theorem Ok.if_gt (C : Cx W Z own nm bc maxL rt) {x : Int32} {o : Int} (hd : decode bc pc = .ok (.ifCond .gt o, 3)) (t q : Nat) (ht : (pc : Int) + o = t) (hq : pc + 3 = q) (g1 : 0 < x.toInt → Ok W R n0 Q h k n t Ls st) (g2 : x.toInt ≤ 0 → Ok W R n0 Q h k n q Ls st) : Ok W R n0 Q h k n pc Ls (.int x :: st) :=
  Ok.ifB C hd t q ht hq (fun z => g1 (h_gt.1 z)) (fun z => g2 (h_gt.2 z))
theorem Ok.lcmp_gt (C : Cx W Z own nm bc maxL rt) {x y : Int64} {o : Int} (hd0 : decode bc pc = .ok (.lcmp, 1)) (hd : decode bc (pc + 1) = .ok (.ifCond .gt o, 3)) (t q : Nat) (ht : ((pc + 1 : Nat) : Int) + o = t) (hq : pc + 1 + 3 = q) (g1 : y.toInt < x.toInt → Ok W R n0 Q h k n t Ls st) (g2 : x.toInt ≤ y.toInt → Ok W R n0 Q h k n q Ls st) : Ok W R n0 Q h k n pc Ls (.long y :: .long x :: st) :=
  Ok.lcmp C hd0 _ rfl (Ok.if_gt C hd t q ht hq (fun z => g1 (by have := lw_z x y; omega)) (fun z => g2 (by have := lw_z x y; omega)))
theorem Ok.icmp_le (C : Cx W Z own nm bc maxL rt) {x y : Int32} {o : Int} (hd : decode bc pc = .ok (.if_icmp .le o, 3)) (t q : Nat) (ht : (pc : Int) + o = t) (hq : pc + 3 = q) (g1 : x.toInt ≤ y.toInt → Ok W R n0 Q h k n t Ls st) (g2 : y.toInt < x.toInt → Ok W R n0 Q h k n q Ls st) : Ok W R n0 Q h k n pc Ls (.int y :: .int x :: st) :=
  Ok.icmpB C hd t q ht hq (fun z => g1 (h_le.1 z)) (fun z => g2 (h_le.2 z))
theorem Ok.if_le (C : Cx W Z own nm bc maxL rt) {x : Int32} {o : Int} (hd : decode bc pc = .ok (.ifCond .le o, 3)) (t q : Nat) (ht : (pc : Int) + o = t) (hq : pc + 3 = q) (g1 : x.toInt ≤ 0 → Ok W R n0 Q h k n t Ls st) (g2 : 0 < x.toInt → Ok W R n0 Q h k n q Ls st) : Ok W R n0 Q h k n pc Ls (.int x :: st) :=
  Ok.ifB C hd t q ht hq (fun z => g1 (h_le.1 z)) (fun z => g2 (h_le.2 z))
theorem Ok.lcmp_le (C : Cx W Z own nm bc maxL rt) {x y : Int64} {o : Int} (hd0 : decode bc pc = .ok (.lcmp, 1)) (hd : decode bc (pc + 1) = .ok (.ifCond .le o, 3)) (t q : Nat) (ht : ((pc + 1 : Nat) : Int) + o = t) (hq : pc + 1 + 3 = q) (g1 : x.toInt ≤ y.toInt → Ok W R n0 Q h k n t Ls st) (g2 : y.toInt < x.toInt → Ok W R n0 Q h k n q Ls st) : Ok W R n0 Q h k n pc Ls (.long y :: .long x :: st) :=
  Ok.lcmp C hd0 _ rfl (Ok.if_le C hd t q ht hq (fun z => g1 (by have := lw_z x y; omega)) (fun z => g2 (by have := lw_z x y; omega)))
theorem Ok.icmp_eq (C : Cx W Z own nm bc maxL rt) {x y : Int32} {o : Int} (hd : decode bc pc = .ok (.if_icmp .eq o, 3)) (t q : Nat) (ht : (pc : Int) + o = t) (hq : pc + 3 = q) (g1 : x.toInt = y.toInt → Ok W R n0 Q h k n t Ls st) (g2 : x.toInt ≠ y.toInt → Ok W R n0 Q h k n q Ls st) : Ok W R n0 Q h k n pc Ls (.int y :: .int x :: st) :=
  Ok.icmpB C hd t q ht hq (fun z => g1 (h_eq.1 z)) (fun z => g2 (h_eq.2 z))
theorem Ok.if_eq (C : Cx W Z own nm bc maxL rt) {x : Int32} {o : Int} (hd : decode bc pc = .ok (.ifCond .eq o, 3)) (t q : Nat) (ht : (pc : Int) + o = t) (hq : pc + 3 = q) (g1 : x.toInt = 0 → Ok W R n0 Q h k n t Ls st) (g2 : x.toInt ≠ 0 → Ok W R n0 Q h k n q Ls st) : Ok W R n0 Q h k n pc Ls (.int x :: st) :=
  Ok.ifB C hd t q ht hq (fun z => g1 (h_eq.1 z)) (fun z => g2 (h_eq.2 z))
theorem Ok.lcmp_eq (C : Cx W Z own nm bc maxL rt) {x y : Int64} {o : Int} (hd0 : decode bc pc = .ok (.lcmp, 1)) (hd : decode bc (pc + 1) = .ok (.ifCond .eq o, 3)) (t q : Nat) (ht : ((pc + 1 : Nat) : Int) + o = t) (hq : pc + 1 + 3 = q) (g1 : x.toInt = y.toInt → Ok W R n0 Q h k n t Ls st) (g2 : x.toInt ≠ y.toInt → Ok W R n0 Q h k n q Ls st) : Ok W R n0 Q h k n pc Ls (.long y :: .long x :: st) :=
  Ok.lcmp C hd0 _ rfl (Ok.if_eq C hd t q ht hq (fun z => g1 (by have := lw_z x y; omega)) (fun z => g2 (by have := lw_z x y; omega)))
theorem Ok.icmp_ne (C : Cx W Z own nm bc maxL rt) {x y : Int32} {o : Int} (hd : decode bc pc = .ok (.if_icmp .ne o, 3)) (t q : Nat) (ht : (pc : Int) + o = t) (hq : pc + 3 = q) (g1 : x.toInt ≠ y.toInt → Ok W R n0 Q h k n t Ls st) (g2 : x.toInt = y.toInt → Ok W R n0 Q h k n q Ls st) : Ok W R n0 Q h k n pc Ls (.int y :: .int x :: st) :=
  Ok.icmpB C hd t q ht hq (fun z => g1 (h_ne.1 z)) (fun z => g2 (h_ne.2 z))
theorem Ok.if_ne (C : Cx W Z own nm bc maxL rt) {x : Int32} {o : Int} (hd : decode bc pc = .ok (.ifCond .ne o, 3)) (t q : Nat) (ht : (pc : Int) + o = t) (hq : pc + 3 = q) (g1 : x.toInt ≠ 0 → Ok W R n0 Q h k n t Ls st) (g2 : x.toInt = 0 → Ok W R n0 Q h k n q Ls st) : Ok W R n0 Q h k n pc Ls (.int x :: st) :=
  Ok.ifB C hd t q ht hq (fun z => g1 (h_ne.1 z)) (fun z => g2 (h_ne.2 z))
theorem Ok.lcmp_ne (C : Cx W Z own nm bc maxL rt) {x y : Int64} {o : Int} (hd0 : decode bc pc = .ok (.lcmp, 1)) (hd : decode bc (pc + 1) = .ok (.ifCond .ne o, 3)) (t q : Nat) (ht : ((pc + 1 : Nat) : Int) + o = t) (hq : pc + 1 + 3 = q) (g1 : x.toInt ≠ y.toInt → Ok W R n0 Q h k n t Ls st) (g2 : x.toInt = y.toInt → Ok W R n0 Q h k n q Ls st) : Ok W R n0 Q h k n pc Ls (.long y :: .long x :: st) :=
  Ok.lcmp C hd0 _ rfl (Ok.if_ne C hd t q ht hq (fun z => g1 (by have := lw_z x y; omega)) (fun z => g2 (by have := lw_z x y; omega)))
/-! the heap -/
theorem Ok.getfield (C : Cx W Z own nm bc maxL rt) {O f d : String} {i : Nat} {a : Addr} {v : Value} (w : (Jvm.Cond.fieldLink own i O f d).before a0 Z = true) (hd : decode bc pc = .ok (.getfield i, 3)) (F : Fld Z h a O f d v) (q : Nat) (hq : pc + 3 = q) (g : Ok W R n0 Q h k n q Ls (v :: st)) : Ok W R n0 Q h k n pc Ls (.ref a :: st) := by
  subst hq
  exact g.move fun T locs X e => getF X C.1 C.2.1 C.2.2.2.2.1 (host := "") (Or.inl w) Via.refl e F (g := mkF W.m pc Ls.toArray (.ref a :: st)) rfl rfl (hb C.2.2.1 hd)
theorem Ok.putfield (C : Cx W Z own nm bc maxL rt) {O f d K : String} {i kk : Nat} {a : Addr} {v old : Value} {ty : FieldType} (w : (Jvm.Cond.fieldLink own i O f d).before a0 Z = true) (hd : decode bc pc = .ok (.putfield i, 3)) (F : Fld Z h a O f d old) (E : Exa Z h a K) (L : (Jvm.Cond.lays K O f d).before a0 Z = true ∨ ((Jvm.Cond.laysFinal K O f d).before a0 Z = true ∧ own = O ∧ nm = "<init>")) (wi : (Jvm.Cond.instantiable K kk).before a0 Z = true)
    (hty : parseFieldDescriptor d = some ty) (hn : narrow ty v = v) (hf : fits ty v = true) (hN : n0 ≤ a) (q : Nat) (hq : pc + 3 = q) (g : ∀ h', Wr h h' a (Jvm.RoadKit.slotOf Z O f d) v → Fld Z h' a O f d v → Ok W R n0 Q h' k n q Ls st) : Ok W R n0 Q h k n pc Ls (v :: .ref a :: st) := fun T locs X e N => by
  subst hq
  obtain ⟨T', h', X', e', Wr', st'⟩ := putF X C.1 C.2.1 C.2.2.2.2.1 (host := "") (Or.inl w) Via.refl e F E (L.imp id fun z => ⟨z.1, z.2.1, C.2.2.2.2.2.2.2.trans z.2.2⟩) wi hty hn hf (g := mkF W.m pc Ls.toArray (v :: .ref a :: st)) rfl rfl (hb C.2.2.1 hd)
  obtain ⟨s₂, o, S, r⟩ := g h' Wr' (F.same Wr') T' _ X' e' (Fr.snoc X' N hN)
  exact ⟨s₂, o, st' _ S, r⟩
theorem Ok.new (C : Cx W Z own nm bc maxL rt) {K : String} {i m : Nat} (w : (Jvm.Cond.classLink own i K).before a0 Z = true) (wi : (Jvm.Cond.instantiable K m).before a0 Z = true) (wz : (Jvm.Cond.initialized K).before a0 Z = true) (hd : decode bc pc = .ok (.new i, 3)) (hc : k + 1 ≤ R.cells) (hl : n + m ≤ R.slots) (q : Nat) (hq : pc + 3 = q)
    (g : ∀ h' a, a = h.size → Ext h h' → Exa Z h' a K → (∀ {O nm d : String} {ty : FieldType}, Laid Z a0 K O nm d → parseFieldDescriptor d = some ty → Fld Z h' a O nm d (defaultValue ty)) → Ok W R n0 Q h' (k + 1) (n + m) q Ls (.ref a :: st)) : Ok W R n0 Q h k n pc Ls st := fun T locs X e N => by
  subst hq
  obtain ⟨T', h', X', e', E', A', D', -, st'⟩ := newO X C.1 C.2.1 C.2.2.2.2.1 w wi wz e (g := mkF W.m pc Ls.toArray st) rfl (hb C.2.2.1 hd) hc hl
  obtain ⟨s₂, o, S, r⟩ := g h' _ rfl E' A' D' T' _ X' e' N
  exact ⟨s₂, o, st' _ S, r⟩
/-- the array at a holds vs -/
def AI (Z : State) (h : Heap) (a : Addr) (ty : FieldType) (vs : List Value) : Prop := ∃ c : Cell, Arr Z h a c ty ∧ c.slots = vs.toArray
theorem AI.lt {a : Addr} {ty : FieldType} {vs : List Value} (F : AI Z h a ty vs) : a < h.size := by obtain ⟨c, A, -⟩ := F; exact A.lt
theorem AI.ext {h' : Heap} {a : Addr} {ty : FieldType} {vs : List Value} (F : AI Z h a ty vs) (E : Ext h h') : AI Z h' a ty vs := by obtain ⟨c, A, r⟩ := F; exact ⟨c, A.ext E, r⟩
theorem AI.other {h' : Heap} {a b : Addr} {sl : Nat} {v : Value} {ty : FieldType} {vs : List Value} (F : AI Z h b ty vs) (W : Wr h h' a sl v) (q : b ≠ a) : AI Z h' b ty vs := by obtain ⟨c, A, r⟩ := F; exact ⟨c, A.other W q, r⟩
theorem AI.keep {h' : Heap} {a : Addr} {ws : List Addr} {ty : FieldType} {vs : List Value} (F : AI Z h a ty vs) (K : Keep h h' ws) (q : a ∉ ws) : AI Z h' a ty vs := by obtain ⟨c, A, r⟩ := F; exact ⟨c, ⟨K.2.1 a c A.1 q, A.2⟩, r⟩
theorem AI.same {h' : Heap} {a : Addr} {i : Nat} {v : Value} {ty : FieldType} {vs : List Value} (F : AI Z h a ty vs) (W : Wr h h' a i v) : AI Z h' a ty (vs.set i v) := by
  obtain ⟨c, A, r⟩ := F; exact ⟨_, A.same W, by simp [Cell.setSlot, r]⟩
theorem ne_AI {a b : Addr} {K : String} {kk : Nat} {ty : FieldType} {vs : List Value} (E : Exa Z h a K) (wi : (Jvm.Cond.instantiable K kk).before a0 Z = true) (F : AI Z h b ty vs) : a ≠ b := by obtain ⟨c, A, -⟩ := F; exact ne_arr E wi A
theorem own_nat {j : Int32} {i : Nat} (hj : j.toInt = i) : j.toNatClampNeg = i ∧ ¬ j < 0 := by
  have h2 : ¬ j < 0 := by rw [Int32.lt_iff_toInt_lt, z32]; omega
  have h3 := nat_of h2
  exact ⟨by omega, h2⟩
theorem own_in {c : Cell} {j : Int32} {i : Nat} {vs : List Value} (hj : j.toInt = i) (hc : c.slots = vs.toArray) (hi : i < vs.length) : ¬ (j < 0 ∨ c.slots.size ≤ j.toNatClampNeg) := by
  obtain ⟨h1, h2⟩ := own_nat hj
  rintro (h3 | h3)
  · exact h2 h3
  · rw [hc, h1] at h3; simp at h3; omega
theorem own_at {c : Cell} {j : Int32} {i : Nat} {vs : List Value} {v : Value} (hj : j.toInt = i) (hc : c.slots = vs.toArray) (hv : vs[i]? = some v) : c.slots[j.toNatClampNeg]? = some v := by
  rw [(own_nat hj).1, hc]; simpa using hv
theorem own_bd {i : Nat} {vs : List Value} {v : Value} (hv : vs[i]? = some v) : i < vs.length := (List.getElem?_eq_some_iff.mp hv).1
theorem Ok.newarray (C : Cx W Z own nm bc maxL rt) {aty : ArrayType} {ty : FieldType} {z : Int32} (w : (Jvm.Cond.arrayClass ty).before a0 Z = true) (hd : decode bc pc = .ok (.newarray aty, 2)) (hty : newarray.typeOf aty = ty) (i : Nat) (hz : z.toInt = i) (hb' : i * 8 ≤ 536870912) (cap : Nat) (hcap : i ≤ cap) (hb2 : cap * 8 ≤ 536870912) (hc : k + 1 ≤ R.cells) (hl : n + cap ≤ R.slots) (q : Nat) (hq : pc + 2 = q)
    (g : ∀ h' a, a = h.size → Ext h h' → AI Z h' a ty (List.replicate i (defaultValue ty)) → Ok W R n0 Q h' (k + 1) (n + cap) q Ls (.ref a :: st)) : Ok W R n0 Q h k n pc Ls (.int z :: st) := fun T locs X e N => by
  subst hq hty
  obtain ⟨z1, z2⟩ := own_nat hz
  obtain ⟨T', h', cA, X', e', E', A', st'⟩ := newP X C.1 C.2.1 w e (g := mkF W.m pc Ls.toArray (.int z :: st)) rfl (hb C.2.2.1 hd) rfl z2 (cap := cap) (by omega) hb2 hc hl
  obtain ⟨s₂, o, S, r⟩ := g h' _ rfl E' ⟨_, A', by simp [newA, z1]⟩ T' _ X' e' N
  exact ⟨s₂, o, st' _ S, r⟩
theorem Ok.arraylength (C : Cx W Z own nm bc maxL rt) {a : Addr} {ty : FieldType} {vs : List Value} (hd : decode bc pc = .ok (.arraylength, 1)) (F : AI Z h a ty vs) (z : Int32) (hz : vs.length.toInt32 = z) (q : Nat) (hq : pc + 1 = q) (g : Ok W R n0 Q h k n q Ls (.int z :: st)) : Ok W R n0 Q h k n pc Ls (.ref a :: st) := by
  subst hq hz
  obtain ⟨c, A, hc⟩ := F
  have hs : c.slots.size = vs.length := by rw [hc]; simp
  rw [← hs] at g
  exact g.back fun T locs X e t s => X.arraylength C.1 (by rw [e]; exact A.1) (State.isArrayOf_alike C.2.1.alike A.2.1) (g := mkF W.m pc Ls.toArray (.ref a :: st)) rfl rfl (hb C.2.2.1 hd) t s
theorem Ok.iaload (C : Cx W Z own nm bc maxL rt) {a : Addr} {j : Int32} {v : Value} {vs : List Value} (hd : decode bc pc = .ok (.iaload, 1)) (F : AI Z h a .int vs) (i : Nat) (hj : j.toInt = i) (hv : vs[i]? = some v) (q : Nat) (hq : pc + 1 = q) (g : Ok W R n0 Q h k n q Ls (v :: st)) : Ok W R n0 Q h k n pc Ls (.int j :: .ref a :: st) := by
  subst hq
  obtain ⟨c, A, hc⟩ := F
  exact g.back fun T locs X e t s => X.iaload C.1 (j := j) (v := v) (by rw [e]; exact A.1) (State.isArrayOf_alike C.2.1.alike A.2.1) A.2.2 (own_in hj hc (own_bd hv)) (own_at hj hc hv) (g := mkF W.m pc Ls.toArray (.int j :: .ref a :: st)) rfl rfl (hb C.2.2.1 hd) t s
theorem Ok.laload (C : Cx W Z own nm bc maxL rt) {a : Addr} {j : Int32} {v : Value} {vs : List Value} (hd : decode bc pc = .ok (.laload, 1)) (F : AI Z h a .long vs) (i : Nat) (hj : j.toInt = i) (hv : vs[i]? = some v) (q : Nat) (hq : pc + 1 = q) (g : Ok W R n0 Q h k n q Ls (v :: st)) : Ok W R n0 Q h k n pc Ls (.int j :: .ref a :: st) := by
  subst hq
  obtain ⟨c, A, hc⟩ := F
  exact g.back fun T locs X e t s => X.laload C.1 (j := j) (v := v) (by rw [e]; exact A.1) (State.isArrayOf_alike C.2.1.alike A.2.1) A.2.2 (own_in hj hc (own_bd hv)) (own_at hj hc hv) (g := mkF W.m pc Ls.toArray (.int j :: .ref a :: st)) rfl rfl (hb C.2.2.1 hd) t s
theorem Ok.baload (C : Cx W Z own nm bc maxL rt) {a : Addr} {j : Int32} {v : Value} {vs : List Value} (hd : decode bc pc = .ok (.baload, 1)) (F : AI Z h a .byte vs) (i : Nat) (hj : j.toInt = i) (hv : vs[i]? = some v) (q : Nat) (hq : pc + 1 = q) (g : Ok W R n0 Q h k n q Ls (v :: st)) : Ok W R n0 Q h k n pc Ls (.int j :: .ref a :: st) := by
  subst hq
  obtain ⟨c, A, hc⟩ := F
  exact g.back fun T locs X e t s => X.baloadBytes C.1 (j := j) (v := v) (by rw [e]; exact A.1) (State.isArrayOf_alike C.2.1.alike A.2.1) A.2.2 (own_in hj hc (own_bd hv)) (own_at hj hc hv) (g := mkF W.m pc Ls.toArray (.int j :: .ref a :: st)) rfl rfl (hb C.2.2.1 hd) t s
theorem Ok.zaload (C : Cx W Z own nm bc maxL rt) {a : Addr} {j : Int32} {v : Value} {vs : List Value} (hd : decode bc pc = .ok (.baload, 1)) (F : AI Z h a .boolean vs) (i : Nat) (hj : j.toInt = i) (hv : vs[i]? = some v) (q : Nat) (hq : pc + 1 = q) (g : Ok W R n0 Q h k n q Ls (v :: st)) : Ok W R n0 Q h k n pc Ls (.int j :: .ref a :: st) := by
  subst hq
  obtain ⟨c, A, hc⟩ := F
  exact g.back fun T locs X e t s => X.baloadBooleans C.1 (j := j) (v := v) (by rw [e]; exact A.1) (State.isArrayOf_alike C.2.1.alike A.2.1) A.2.2 (own_in hj hc (own_bd hv)) (own_at hj hc hv) (g := mkF W.m pc Ls.toArray (.int j :: .ref a :: st)) rfl rfl (hb C.2.2.1 hd) t s
theorem Ok.iastore (C : Cx W Z own nm bc maxL rt) {a : Addr} {j : Int32} {x : Int32} {vs : List Value} (hd : decode bc pc = .ok (.iastore, 1)) (F : AI Z h a .int vs) (i : Nat) (hj : j.toInt = i) (hi : i < vs.length) (hN : n0 ≤ a) (q : Nat) (hq : pc + 1 = q) (g : ∀ h', Wr h h' a i (.int x) → AI Z h' a .int (vs.set i (.int x)) → Ok W R n0 Q h' k n q Ls st) : Ok W R n0 Q h k n pc Ls (.int x :: .int j :: .ref a :: st) := fun T locs X e N => by
  subst hq
  obtain ⟨c, A, hc⟩ := F
  obtain ⟨T', h', X', e', Wr', st'⟩ := stI X C.1 C.2.1 e A (j := j) (x := x) (own_in hj hc hi) (g := mkF W.m pc Ls.toArray (.int x :: .int j :: .ref a :: st)) rfl rfl (hb C.2.2.1 hd)
  have N' := Fr.snoc X' N hN
  rw [(own_nat hj).1] at Wr'
  obtain ⟨s₂, o, S, r⟩ := g h' Wr' (AI.same ⟨c, A, hc⟩ Wr') T' _ X' e' N'
  exact ⟨s₂, o, st' _ S, r⟩
theorem Ok.lastore (C : Cx W Z own nm bc maxL rt) {a : Addr} {j : Int32} {x : Int64} {vs : List Value} (hd : decode bc pc = .ok (.lastore, 1)) (F : AI Z h a .long vs) (i : Nat) (hj : j.toInt = i) (hi : i < vs.length) (hN : n0 ≤ a) (q : Nat) (hq : pc + 1 = q) (g : ∀ h', Wr h h' a i (.long x) → AI Z h' a .long (vs.set i (.long x)) → Ok W R n0 Q h' k n q Ls st) : Ok W R n0 Q h k n pc Ls (.long x :: .int j :: .ref a :: st) := fun T locs X e N => by
  subst hq
  obtain ⟨c, A, hc⟩ := F
  obtain ⟨T', h', X', e', Wr', st'⟩ := stJ X C.1 C.2.1 e A (j := j) (x := x) (own_in hj hc hi) (g := mkF W.m pc Ls.toArray (.long x :: .int j :: .ref a :: st)) rfl rfl (hb C.2.2.1 hd)
  have N' := Fr.snoc X' N hN
  rw [(own_nat hj).1] at Wr'
  obtain ⟨s₂, o, S, r⟩ := g h' Wr' (AI.same ⟨c, A, hc⟩ Wr') T' _ X' e' N'
  exact ⟨s₂, o, st' _ S, r⟩
theorem Ok.bastore (C : Cx W Z own nm bc maxL rt) {a : Addr} {j : Int32} {x : Int32} {vs : List Value} (hd : decode bc pc = .ok (.bastore, 1)) (F : AI Z h a .byte vs) (i : Nat) (hj : j.toInt = i) (hi : i < vs.length) (hN : n0 ≤ a) (q : Nat) (hq : pc + 1 = q) (g : ∀ h', Wr h h' a i (.int (x.toInt8.toInt32)) → AI Z h' a .byte (vs.set i (.int (x.toInt8.toInt32))) → Ok W R n0 Q h' k n q Ls st) : Ok W R n0 Q h k n pc Ls (.int x :: .int j :: .ref a :: st) := fun T locs X e N => by
  subst hq
  obtain ⟨c, A, hc⟩ := F
  obtain ⟨T', h', X', e', Wr', st'⟩ := stB X C.1 C.2.1 e A (j := j) (x := x) (own_in hj hc hi) (g := mkF W.m pc Ls.toArray (.int x :: .int j :: .ref a :: st)) rfl rfl (hb C.2.2.1 hd)
  have N' := Fr.snoc X' N hN
  rw [(own_nat hj).1] at Wr'
  obtain ⟨s₂, o, S, r⟩ := g h' Wr' (AI.same ⟨c, A, hc⟩ Wr') T' _ X' e' N'
  exact ⟨s₂, o, st' _ S, r⟩
theorem Ok.zastore (C : Cx W Z own nm bc maxL rt) {a : Addr} {j : Int32} {x : Int32} {vs : List Value} (hd : decode bc pc = .ok (.bastore, 1)) (F : AI Z h a .boolean vs) (i : Nat) (hj : j.toInt = i) (hi : i < vs.length) (hN : n0 ≤ a) (q : Nat) (hq : pc + 1 = q) (g : ∀ h', Wr h h' a i (.int (x &&& 1)) → AI Z h' a .boolean (vs.set i (.int (x &&& 1))) → Ok W R n0 Q h' k n q Ls st) : Ok W R n0 Q h k n pc Ls (.int x :: .int j :: .ref a :: st) := fun T locs X e N => by
  subst hq
  obtain ⟨c, A, hc⟩ := F
  obtain ⟨T', h', X', e', Wr', st'⟩ := stZ X C.1 C.2.1 e A (j := j) (x := x) (own_in hj hc hi) (g := mkF W.m pc Ls.toArray (.int x :: .int j :: .ref a :: st)) rfl rfl (hb C.2.2.1 hd)
  have N' := Fr.snoc X' N hN
  rw [(own_nat hj).1] at Wr'
  obtain ⟨s₂, o, S, r⟩ := g h' Wr' (AI.same ⟨c, A, hc⟩ Wr') T' _ X' e' N'
  exact ⟨s₂, o, st' _ S, r⟩
/-! the end -/
theorem Ok.fin {T : State} {locs : List Loc} {v : Option Value} (C : Cx W Z own nm bc maxL rt) (hv : rt = none → v = none) (X : Stand W.p W.l W.e R W.s W.m W.args W.below W.meth W.c T locs k n) (e : T.heap = h) (N : Fr n0 locs) (hk : k ≤ R.cells) (hn : n ≤ R.slots) (hQ : Q v h) {f : State}
    (hst : ∀ fs, (∀ (f : JFrame) (acts : List Action), f.method = W.m → f.locked = none → f.entered = [] → (doReturn W.e (T.setTop f) acts v).1 = T.setFrames fs) → Steps W.p.tables W.e W.below f (T.setFrames fs)) :
    ∃ s₂ o, Steps W.p.tables W.e W.below f s₂ ∧ s₂.status = .running ∧ Ended s₂ W.below o ∧ ∃ v L, o = .returned v ∧ (Q v s₂.heap ∧ Fr n0 L) ∧ FrameEnd W.s o s₂ L R.cells R.slots := by
  obtain ⟨fs, hr, hrun, hended, hW, hsame⟩ := X.leave (v := v) (fun z => hv (C.2.2.2.2.2.1.symm.trans z)) C.2.2.2.2.2.2.1
  have hQ' : Q v (T.setFrames fs).heap := by show Q v T.heap; rw [e]; exact hQ
  exact ⟨_, _, hst fs hr, hrun, hended, _, _, rfl, ⟨hQ', N⟩, ⟨_, rfl⟩, hW, hsame.mono hk hn⟩
theorem Ok.ireturn (C : Cx W Z own nm bc maxL (some .int)) {x : Int32} (hd : decode bc pc = .ok (.ireturn, 1)) (hk : k ≤ R.cells) (hn : n ≤ R.slots) (hQ : Q (some (.int x)) h) : Ok W R n0 Q h k n pc Ls (.int x :: st) := fun T locs X e N =>
  Ok.fin C (fun z => by cases z) X e N hk hn hQ fun fs hr => retOut X C.1 C.2.2.2.2.2.1 rfl (Or.inl ⟨rfl, Or.inl rfl, _, rfl⟩) (hb C.2.2.1 hd) hr
theorem Ok.zreturn (C : Cx W Z own nm bc maxL (some .boolean)) {x : Int32} (hd : decode bc pc = .ok (.ireturn, 1)) (hk : k ≤ R.cells) (hn : n ≤ R.slots) (hQ : Q (some (.int (x &&& 1))) h) : Ok W R n0 Q h k n pc Ls (.int x :: st) := fun T locs X e N =>
  Ok.fin C (fun z => by cases z) X e N hk hn hQ fun fs hr => retN X C.1 (t := .boolean) C.2.2.2.2.2.1 (Or.inl rfl) (hb C.2.2.1 hd) hr
theorem Ok.lreturn (C : Cx W Z own nm bc maxL (some .long)) {x : Int64} (hd : decode bc pc = .ok (.lreturn, 1)) (hk : k ≤ R.cells) (hn : n ≤ R.slots) (hQ : Q (some (.long x)) h) : Ok W R n0 Q h k n pc Ls (.long x :: st) := fun T locs X e N =>
  Ok.fin C (fun z => by cases z) X e N hk hn hQ fun fs hr => retOut X C.1 C.2.2.2.2.2.1 rfl (Or.inr (Or.inl ⟨rfl, rfl, _, rfl⟩)) (hb C.2.2.1 hd) hr
theorem Ok.vreturn (C : Cx W Z own nm bc maxL none) (hd : decode bc pc = .ok (.return_, 1)) (hk : k ≤ R.cells) (hn : n ≤ R.slots) (hQ : Q none h) : Ok W R n0 Q h k n pc Ls [] := fun T locs X e N =>
  Ok.fin C (fun _ => rfl) X e N hk hn hQ fun fs hr => X.returnOut C.1 C.2.2.2.2.2.1 (hb C.2.2.1 hd) hr
/-! calls -/
/-- the method y, called with as' over the heap h, returns with Q -/
def Does (l : Launch) (Z : State) (y : MethodName) (bytes : ByteArray) (mL : Nat) (rt : Option FieldType) (rm : Room) (as' : Array Value) (h : Heap) (n0 : Nat) (Q : Option Value → Heap → Prop) : Prop :=
  MetFree l y (head1 [Jvm.Cond.code y bytes mL rt] rm) (fun a U => a = as' ∧ Z.Warmed39 U.vm ∧ U.heap = h) (fun _ _ _ _ _ => True) (fun _ U o U' => ∃ v L, o = .returned v ∧ (Q v U'.heap ∧ Fr n0 L) ∧ FrameEnd U o U' L rm.cells rm.slots)
def DoesW (l : Launch) (Z : State) (y : MethodName) (bytes : ByteArray) (mL : Nat) (rt : Option FieldType) (rm : Room) (ws : List Jvm.Cond) (as' : Array Value) (h : Heap) (n0 : Nat) (Q : Option Value → Heap → Prop) : Prop :=
  MetFree l y (head1 (Jvm.Cond.code y bytes mL rt :: ws) rm) (fun a U => a = as' ∧ Z.Warmed39 U.vm ∧ U.heap = h) (fun _ _ _ _ _ => True) (fun _ U o U' => ∃ v L, o = .returned v ∧ (Q v U'.heap ∧ Fr n0 L) ∧ FrameEnd U o U' L rm.cells rm.slots)
theorem DoesW.of_body {l : Launch} {y : MethodName} {bytes : ByteArray} {mL : Nat} {rm : Room} {ws : List Jvm.Cond} {as' : Array Value} (hpl : plainFor y = true) (Ls0 : List Slot) (ef : ∀ m, entryFrame m as' mL = mkF m 0 Ls0.toArray [])
    (g : ∀ W : Wd, W.l = l → Cx W Z y.cls y.name bytes mL rt → Ok W rm n0 Q h 0 0 0 Ls0 []) : DoesW l Z y bytes mL rt rm ws as' h n0 Q := by
  unfold DoesW
  refine MetFree.of_bodySF hpl hisR ?_
  intro p e s m args below meth c s₁ Bd hml0 hP hK
  obtain ⟨rfl, hZ, hh⟩ := hP
  have X0 : Stand p l e rm s m args below meth c s₁ [] 0 0 := Stand.of_body Bd
  have e0 : s₁.heap = h := by rw [← hh, Bd.state]; rfl
  obtain ⟨s₂, o, S, r⟩ := g (p, l, e, s, m, args, below, meth, c) rfl ⟨Bd.exec, hZ, Bd.bytes, hml0, findClass_of_methodNamed Bd.named, Bd.returns, Bd.notSynchronized, (name_of_methodNamed Bd.named Bd.method).1⟩ s₁ [] X0 e0 (Fr.nil n0)
  exact ⟨s₂, o, castTop (ef m) S, r⟩
theorem Does.of_body {l : Launch} {y : MethodName} {bytes : ByteArray} {mL : Nat} {rm : Room} {as' : Array Value} (hpl : plainFor y = true) (Ls0 : List Slot) (ef : ∀ m, entryFrame m as' mL = mkF m 0 Ls0.toArray [])
    (g : ∀ W : Wd, W.l = l → Cx W Z y.cls y.name bytes mL rt → Ok W rm n0 Q h 0 0 0 Ls0 []) : Does l Z y bytes mL rt rm as' h n0 Q := DoesW.of_body (ws := []) hpl Ls0 ef g
theorem own_after {v : Option Value} {q : Nat} {rest : List Value} {rm : Room} {T : State} {locs L : List Loc} {h' : Heap} (g : Ok W R n0 Q h' (k + rm.cells) (n + rm.slots) q Ls (v.toList ++ rest)) (N : Fr n0 locs) (N' : Fr n0 L) (X : Stand W.p W.l W.e R W.s W.m W.args W.below W.meth W.c T (locs ++ L) (k + rm.cells) (n + rm.slots)) (e : T.heap = h') :
    ∃ s₂ o, Steps W.p.tables W.e W.below (T.setTop (mkF W.m q Ls.toArray (v.toList ++ rest))) s₂ ∧ s₂.status = .running ∧ Ended s₂ W.below o ∧ ∃ v L, o = .returned v ∧ (Q v s₂.heap ∧ Fr n0 L) ∧ FrameEnd W.s o s₂ L R.cells R.slots := g T _ X e (N.app N')
theorem Ok.callStatic (C : Cx W Z own nm bc maxL rt) {i : Nat} {y : MethodName} {bytes : ByteArray} {mL : Nat} {rt' : Option FieldType} {rm : Room} {ps : List FieldType} {Q' : Option Value → Heap → Prop} (argsL rest : List Value) (hs : st = argsL.reverse ++ rest)
    (w1 : (Jvm.Cond.methodLink own i y).before a0 Z = true) (w2 : (Jvm.Cond.static y).before a0 Z = true) (w3 : (Jvm.Cond.initialized y.cls).before a0 Z = true) (w4 : (Jvm.Cond.code y bytes mL rt').before a0 Z = true) (hd : decode bc pc = .ok (.invokestatic i, 3))
    (hm : y.cls ≠ "java/lang/invoke/MethodHandle" ∧ y.cls ≠ "java/lang/invoke/VarHandle") (pd : parseMethodDescriptor y.desc = some ⟨ps, rt'⟩) (hlen : argsL.length = ps.length) (hsz : Ls.length = maxL)
    (D : Does W.l Z y bytes mL rt' rm argsL.toArray h n0 Q') (hf : rm.frames + 1 ≤ R.frames) (wt : Nat) (hwt : (rest.map fun v => v.category).sum = wt) (hl : wt + (mL + 11) + rm.locals ≤ R.locals) (hc : k + rm.cells ≤ R.cells) (hsl : n + rm.slots ≤ R.slots) (q : Nat) (hq : pc + 3 = q)
    (g : ∀ v h', Q' v h' → Ok W R n0 Q h' (k + rm.cells) (n + rm.slots) q Ls (v.toList ++ rest)) : Ok W R n0 Q h k n pc Ls st := fun T locs X e N => by
  subst hq hs
  obtain ⟨v, vm1, ⟨T', L', k', n'⟩, -, X', ⟨Lc, hQ, l1, y1, z1⟩, st'⟩ := Jvm.LawKit.callS X C.1 (y := y) C.2.2.2.2.1 (mvT C.2.1 w1) (mvT C.2.1 w2) (mvT C.2.1 w3) (mvT C.2.1 w4) hm (backOf (W := wt) (R := R) (Q := fun v h L => Q' v h ∧ Fr n0 L) D C.2.1 w4 w3 hf hl) (g := mkF W.m pc Ls.toArray (argsL.reverse ++ rest)) rfl (by rw [C.2.2.2.1, ← hsz]; simp) (argsL := argsL) (rest := rest) (lenOf pd hlen) rfl (by show 2 * 0 + _ ≤ _; omega) (hb C.2.2.1 hd) (fun _ _ => ⟨rfl, e, hc, hsl⟩)
  dsimp only [Pt.U, Pt.locs, Pt.cells, Pt.slots] at X' l1 y1 z1 st' hQ
  subst l1 y1 z1
  obtain ⟨s₂, o, S, r⟩ := own_after (g v _ hQ.1) N hQ.2 X' rfl
  exact ⟨s₂, o, st' _ S, r⟩
theorem Ok.callInit (C : Cx W Z own nm bc maxL rt) {i : Nat} {y : MethodName} {bytes : ByteArray} {mL : Nat} {rm : Room} {ps : List FieldType} {Q' : Option Value → Heap → Prop} {a : Addr} (argsL rest : List Value) (hs : st = argsL.reverse ++ .ref a :: rest) (hy1 : y.name = "<init>")
    (w1 : (Jvm.Cond.methodLink own i y).before a0 Z = true) (w2 : (Jvm.Cond.instanceMethod y).before a0 Z = true) (w3 : (Jvm.Cond.initialized y.cls).before a0 Z = true) (w4 : (Jvm.Cond.code y bytes mL none).before a0 Z = true) (hd : decode bc pc = .ok (.invokespecial i, 3))
    (hm : y.cls ≠ "java/lang/invoke/MethodHandle" ∧ y.cls ≠ "java/lang/invoke/VarHandle") (pd : parseMethodDescriptor y.desc = some ⟨ps, none⟩) (hlen : argsL.length = ps.length) (hsz : Ls.length = maxL)
    (D : Does W.l Z y bytes mL none rm (.ref a :: argsL).toArray h n0 Q') (hf : rm.frames + 1 ≤ R.frames) (wt : Nat) (hwt : (rest.map fun v => v.category).sum = wt) (hl : wt + (mL + 11) + rm.locals ≤ R.locals) (hc : k + rm.cells ≤ R.cells) (hsl : n + rm.slots ≤ R.slots) (q : Nat) (hq : pc + 3 = q)
    (g : ∀ v h', Q' v h' → Ok W R n0 Q h' (k + rm.cells) (n + rm.slots) q Ls (v.toList ++ rest)) : Ok W R n0 Q h k n pc Ls st := fun T locs X e N => by
  subst hq hs
  obtain ⟨v, vm1, ⟨T', L', k', n'⟩, -, X', ⟨Lc, hQ, l1, y1, z1⟩, st'⟩ := X.specialBack C.1 (y := y) hy1 C.2.2.2.2.1 (mvT C.2.1 w1) (mvT C.2.1 w2) (mvT C.2.1 w4) hm (backOf (W := wt) (R := R) (Q := fun v h L => Q' v h ∧ Fr n0 L) D C.2.1 w4 w3 hf hl) (g := mkF W.m pc Ls.toArray (argsL.reverse ++ .ref a :: rest)) rfl (by rw [C.2.2.2.1, ← hsz]; simp) (Steps.refl _) (a := a) (argsL := argsL) (rest := rest) (lenOf pd hlen) rfl (by show 2 * 0 + _ ≤ _; omega) (hb C.2.2.1 hd) (fun _ _ => ⟨rfl, e, hc, hsl⟩)
  dsimp only [Pt.U, Pt.locs, Pt.cells, Pt.slots] at X' l1 y1 z1 st' hQ
  subst l1 y1 z1
  obtain ⟨s₂, o, S, r⟩ := own_after (g v _ hQ.1) N hQ.2 X' rfl
  exact ⟨s₂, o, st'.trans S, r⟩
theorem Ok.callVirtual (C : Cx W Z own nm bc maxL rt) {i : Nat} {y : MethodName} {bytes : ByteArray} {mL : Nat} {rt' : Option FieldType} {rm : Room} {ps : List FieldType} {Q' : Option Value → Heap → Prop} {a : Addr} (argsL rest : List Value) (hs : st = argsL.reverse ++ .ref a :: rest)
    (w1 : (Jvm.Cond.methodLink own i y).before a0 Z = true) (w2 : (Jvm.Cond.declares y).before a0 Z = true) (w5 : (Jvm.Cond.selects y.cls y y).before a0 Z = true) (w6 : (Jvm.Cond.instanceMethod y).before a0 Z = true) (w3 : (Jvm.Cond.initialized y.cls).before a0 Z = true) (w4 : (Jvm.Cond.code y bytes mL rt').before a0 Z = true) (hd : decode bc pc = .ok (.invokevirtual i, 3))
    (hm : y.cls ≠ "java/lang/invoke/MethodHandle" ∧ y.cls ≠ "java/lang/invoke/VarHandle") (pd : parseMethodDescriptor y.desc = some ⟨ps, rt'⟩) (hlen : argsL.length = ps.length) (hsz : Ls.length = maxL) (E : Exa Z h a y.cls)
    (D : Does W.l Z y bytes mL rt' rm (.ref a :: argsL).toArray h n0 Q') (hf : rm.frames + 1 ≤ R.frames) (wt : Nat) (hwt : (rest.map fun v => v.category).sum = wt) (hl : wt + (mL + 11) + rm.locals ≤ R.locals) (hc : k + rm.cells ≤ R.cells) (hsl : n + rm.slots ≤ R.slots) (q : Nat) (hq : pc + 3 = q)
    (g : ∀ v h', Q' v h' → Ok W R n0 Q h' (k + rm.cells) (n + rm.slots) q Ls (v.toList ++ rest)) : Ok W R n0 Q h k n pc Ls st := fun T locs X e N => by
  subst hq hs
  obtain ⟨cq, kq, qa, qb, qc⟩ := isOf (T := T) C.2.1 e E
  obtain ⟨v, vm1, ⟨T', L', k', n'⟩, -, X', ⟨Lc, hQ, l1, y1, z1⟩, st'⟩ := X.virtualBack C.1 (y := y) (z := y) C.2.2.2.2.1 (mvT C.2.1 w1) (mvT C.2.1 w2) (notFace_of_selects (args := #[]) (mvT C.2.1 w5)) (mvT C.2.1 w5) (mvT C.2.1 w6) hm (backOf (W := wt) (R := R) (Q := fun v h L => Q' v h ∧ Fr n0 L) D C.2.1 w4 w3 hf hl) qa qc (g := mkF W.m pc Ls.toArray (argsL.reverse ++ .ref a :: rest)) rfl (by rw [C.2.2.2.1, ← hsz]; simp) (Steps.refl _) (argsL := argsL) (rest := rest) (lenOf pd hlen) rfl (by show 2 * 0 + _ ≤ _; omega) (hb C.2.2.1 hd) (fun _ _ => ⟨rfl, e, hc, hsl⟩)
  dsimp only [Pt.U, Pt.locs, Pt.cells, Pt.slots] at X' l1 y1 z1 st' hQ
  subst l1 y1 z1
  obtain ⟨s₂, o, S, r⟩ := own_after (g v _ hQ.1) N hQ.2 X' rfl
  exact ⟨s₂, o, st'.trans S, r⟩
theorem own_selects {a : Array Value} {s : State} {y0 y : MethodName} (hs : (Jvm.Cond.selects y0.cls y0 y0).before a s = true) (hi : (Jvm.Cond.instanceMethod y).before a s = true) (hp : (Jvm.Cond.privateMethod y).before a s = true) (hc : y.cls = y0.cls) (hm : y.cls ≠ "java/lang/invoke/MethodHandle" ∧ y.cls ≠ "java/lang/invoke/VarHandle") : (Jvm.Cond.selects y.cls y y).before a s = true := by
  obtain ⟨c, r, m, h1, h2, h3, h4, kk, h5, h6⟩ := Cond.selects_spec hs
  obtain ⟨mk, methM, hn, hmm, -, -⟩ := Cond.instanceMethod_spec hi
  have e1 : s.vm.findClass y0.cls = some m.cls := findClass_of_methodNamed h3
  have e2 : s.vm.findClass y.cls = some mk.cls := findClass_of_methodNamed hn
  have e3 : mk.cls = m.cls := by rw [hc, e1] at e2; exact (Option.some.inj e2).symm
  have hf := State.methodFound?_of_named hn hm
  have hsel : selectMethod {} s.vm mk.cls mk = .method mk := selectMethod_private hmm (Cond.privateMethod_at hp mk methM hn hmm)
  have hk : s.vm.classes[mk.cls]? = some kk := by rw [e3]; exact h5
  simp [Cond.before, Cond.holds, Cond.value, e2, hf, hn, hsel, hk, h6]
theorem Ok.callPrivate (C : Cx W Z own nm bc maxL rt) {i : Nat} {y y0 : MethodName} {bytes : ByteArray} {mL : Nat} {rt' : Option FieldType} {rm : Room} {ps : List FieldType} {Q' : Option Value → Heap → Prop} {a : Addr} (argsL rest : List Value) (hs : st = argsL.reverse ++ .ref a :: rest)
    (w1 : (Jvm.Cond.methodLink own i y).before a0 Z = true) (w6 : (Jvm.Cond.instanceMethod y).before a0 Z = true) (w7 : (Jvm.Cond.privateMethod y).before a0 Z = true) (w5 : (Jvm.Cond.selects y0.cls y0 y0).before a0 Z = true) (hcc : y.cls = y0.cls) (w3 : (Jvm.Cond.initialized y.cls).before a0 Z = true) (w4 : (Jvm.Cond.code y bytes mL rt').before a0 Z = true) (hd : decode bc pc = .ok (.invokevirtual i, 3))
    (hm : y.cls ≠ "java/lang/invoke/MethodHandle" ∧ y.cls ≠ "java/lang/invoke/VarHandle") (pd : parseMethodDescriptor y.desc = some ⟨ps, rt'⟩) (hlen : argsL.length = ps.length) (hsz : Ls.length = maxL) (E : Exa Z h a y.cls)
    (D : Does W.l Z y bytes mL rt' rm (.ref a :: argsL).toArray h n0 Q') (hf : rm.frames + 1 ≤ R.frames) (wt : Nat) (hwt : (rest.map fun v => v.category).sum = wt) (hl : wt + (mL + 11) + rm.locals ≤ R.locals) (hc : k + rm.cells ≤ R.cells) (hsl : n + rm.slots ≤ R.slots) (q : Nat) (hq : pc + 3 = q)
    (g : ∀ v h', Q' v h' → Ok W R n0 Q h' (k + rm.cells) (n + rm.slots) q Ls (v.toList ++ rest)) : Ok W R n0 Q h k n pc Ls st := fun T locs X e N => by
  subst hq hs
  obtain ⟨cq, q1, q2⟩ := E.cell
  obtain ⟨v, vm1, ⟨T', L', k', n'⟩, -, X', ⟨Lc, hQ, l1, y1, z1⟩, st'⟩ := X.privateBack C.1 (y := y) C.2.2.2.2.1 (mvT C.2.1 w1) (mvT C.2.1 w6) (mvT C.2.1 (own_selects w5 w6 w7 hcc hm)) (Cond.privateMethod_at (mvP C.2.1 w7 (args := #[]))) (mvT C.2.1 w4) hm (backOf (W := wt) (R := R) (Q := fun v h L => Q' v h ∧ Fr n0 L) D C.2.1 w4 w3 hf hl) (g := mkF W.m pc Ls.toArray (argsL.reverse ++ .ref a :: rest)) rfl (by rw [C.2.2.2.1, ← hsz]; simp) (Steps.refl _) (a := a) (by rw [e]; exact q1) q2 (argsL := argsL) (rest := rest) (lenOf pd hlen) rfl (by show 2 * 0 + _ ≤ _; omega) (hb C.2.2.1 hd) (fun _ _ => ⟨rfl, e, hc, hsl⟩)
  dsimp only [Pt.U, Pt.locs, Pt.cells, Pt.slots] at X' l1 y1 z1 st' hQ
  subst l1 y1 z1
  obtain ⟨s₂, o, S, r⟩ := own_after (g v _ hQ.1) N hQ.2 X' rfl
  exact ⟨s₂, o, st'.trans S, r⟩
/-! numbers -/
theorem own_add {t x y : Int32} (e : t = x + y) (h1 : -2147483648 ≤ x.toInt + y.toInt) (h2 : x.toInt + y.toInt < 2147483648) : t.toInt = x.toInt + y.toInt := by
  have := c_iadd x y; have := rng32 (x + y); subst e; omega
theorem own_sub {t x y : Int32} (e : t = x - y) (h1 : -2147483648 ≤ x.toInt - y.toInt) (h2 : x.toInt - y.toInt < 2147483648) : t.toInt = x.toInt - y.toInt := by
  have := c_isub x y; have := rng32 (x - y); subst e; omega
theorem own_lsub {t x y : Int64} (e : t = x - y) (h1 : -9223372036854775808 ≤ x.toInt - y.toInt) (h2 : x.toInt - y.toInt < 9223372036854775808) : t.toInt = x.toInt - y.toInt := by
  have := c_lsub x y; have := rng64 (x - y); subst e; omega
theorem own_ladd {t x y : Int64} (e : t = x + y) (h1 : -9223372036854775808 ≤ x.toInt + y.toInt) (h2 : x.toInt + y.toInt < 9223372036854775808) : t.toInt = x.toInt + y.toInt := by
  have := c_ladd x y; have := rng64 (x + y); subst e; omega
theorem own_one : (1 &&& 1 : Int32) = 1 := rfl
theorem own_zero : (0 &&& 1 : Int32) = 0 := rfl
end Own
section OwnInit
variable {W : Wd} {R : Room} {n0 : Nat} {Q : Option Value → Heap → Prop} {h : Heap} {k n pc : Nat} {Ls : List Slot} {st : List Value} {Z : State} {own nm : String} {bc : ByteArray} {maxL : Nat} {rt : Option FieldType} {a0 : Array Value}
theorem Ok.initObj (C : Cx W Z own nm bc maxL rt) {i : Nat} {a : Addr} (w1 : (Jvm.Cond.methodLink own i Lib.objectInit).before a0 Z = true) (w2 : (Jvm.Cond.instanceMethod Lib.objectInit).before a0 Z = true) (w3 : (Jvm.Cond.code Lib.objectInit object_method_1_code 1 none).before a0 Z = true) (hd : decode bc pc = .ok (.invokespecial i, 3)) (hsz : Ls.length = maxL)
    (hf : 1 ≤ R.frames) (wt : Nat) (hwt : (st.map fun v => v.category).sum = wt) (hl : wt + 12 ≤ R.locals) (q : Nat) (hq : pc + 3 = q) (g : Ok W R n0 Q h k n q Ls st) : Ok W R n0 Q h k n pc Ls (.ref a :: st) := by
  subst hq
  exact g.move fun T locs X e => initO X C.1 C.2.1 C.2.2.2.2.1 w1 w2 w3 e (g := mkF W.m pc Ls.toArray (.ref a :: st)) rfl (by rw [C.2.2.2.1, ← hsz]; simp) rfl (hb C.2.2.1 hd) hf (W := wt) (by show 2 * 0 + _ ≤ _; omega) hl
end OwnInit
theorem own_w {Z : State} {a0 : Array Value} (hw : ∀ d ∈ tables_1, d.before a0 Z = true) (i : Nat) {d : Jvm.Cond} (e : tables_1[i]? = some d) : d.before a0 Z = true := hw d (List.mem_of_getElem? e)
/-- the queue at q: its ring at r, its marks at w, N places, the variables L waiting -/
def VQ (Z : State) (h : Heap) (q r w : Addr) (N : Nat) (L : List Nat) : Prop :=
  ∃ (ring wt : List Value) (hd ct : Int32) (H : Nat), Exa Z h q "com/example/leeway/leeway/solver/VariableQueue" ∧ Fld Z h q "com/example/leeway/leeway/solver/VariableQueue" "ring" "[I" (.ref r) ∧ Fld Z h q "com/example/leeway/leeway/solver/VariableQueue" "waiting" "[Z" (.ref w) ∧ Fld Z h q "com/example/leeway/leeway/solver/VariableQueue" "head" "I" (.int hd) ∧ Fld Z h q "com/example/leeway/leeway/solver/VariableQueue" "count" "I" (.int ct) ∧ AI Z h r .int ring ∧ AI Z h w .boolean wt ∧
    ring.length = N ∧ wt.length = N ∧ hd.toInt = H ∧ ct.toInt = L.length ∧ H < N ∧ L.Nodup ∧ (∀ v ∈ L, v < N) ∧
    (∀ (i v : Nat), L[i]? = some v → ∃ x : Int32, ring[(H + i) % N]? = some (.int x) ∧ x.toInt = v) ∧
    (∀ v, v < N → wt[v]? = some (.int (if v ∈ L then 1 else 0)))
theorem VQ.lt {Z : State} {h : Heap} {q r w : Addr} {N : Nat} {L : List Nat} (F : VQ Z h q r w N L) : q < h.size ∧ r < h.size ∧ w < h.size := by
  obtain ⟨ring, wt, hd, ct, H, E, -, -, -, -, A, B, -⟩ := F; exact ⟨E.lt, A.lt, B.lt⟩
theorem VQ.exa {Z : State} {h : Heap} {q r w : Addr} {N : Nat} {L : List Nat} (F : VQ Z h q r w N L) : Exa Z h q "com/example/leeway/leeway/solver/VariableQueue" := by
  obtain ⟨ring, wt, hd, ct, H, E, -⟩ := F; exact E
theorem VQ.ext {Z : State} {h h' : Heap} {q r w : Addr} {N : Nat} {L : List Nat} (F : VQ Z h q r w N L) (X : Ext h h') : VQ Z h' q r w N L := by
  obtain ⟨ring, wt, hd, ct, H, E, f1, f2, f3, f4, A, B, z⟩ := F; exact ⟨ring, wt, hd, ct, H, E.ext X, f1.ext X, f2.ext X, f3.ext X, f4.ext X, A.ext X, B.ext X, z⟩
theorem VQ.keep {Z : State} {h h' : Heap} {q r w : Addr} {N : Nat} {L : List Nat} {ws : List Addr} (F : VQ Z h q r w N L) (X : Keep h h' ws) (h1 : q ∉ ws) (h2 : r ∉ ws) (h3 : w ∉ ws) : VQ Z h' q r w N L := by
  obtain ⟨ring, wt, hd, ct, H, E, f1, f2, f3, f4, A, B, z⟩ := F; exact ⟨ring, wt, hd, ct, H, E.keep X, f1.keep X h1, f2.keep X h1, f3.keep X h1, f4.keep X h1, A.keep X h2, B.keep X h3, z⟩
theorem own_n32 {N : Nat} (h : N < 2147483648) : (N.toInt32).toInt = N := by
  have e : N.toInt32 = Int32.ofNat N := rfl
  rw [e]; exact Int32.toInt_ofNat_of_lt (by simpa using h)
theorem own_mod {H i N : Nat} (h1 : H < N) (h2 : i < N) : H + i < N ∧ (H + i) % N = H + i ∨ N ≤ H + i ∧ (H + i) % N = H + i - N := by
  by_cases h : H + i < N
  · exact Or.inl ⟨h, Nat.mod_eq_of_lt h⟩
  · exact Or.inr ⟨by omega, by rw [Nat.mod_eq_sub_mod (by omega)]; exact Nat.mod_eq_of_lt (by omega)⟩
theorem own_pigeon : ∀ (N : Nat) (L : List Nat), L.Nodup → (∀ v ∈ L, v < N) → L.length ≤ N
  | 0, L, _, h => by
    match L with
    | [] => simp
    | a :: _ => exact absurd (h a (List.mem_cons_self ..)) (by omega)
  | N + 1, L, hn, h => by
    by_cases hm : N ∈ L
    · have h2 := own_pigeon N (L.erase N) (hn.erase N) (fun v hv => by
        have h3 := h v (List.mem_of_mem_erase hv)
        have h4 : v ≠ N := ((List.Nodup.mem_erase_iff hn).mp hv).1
        omega)
      rw [List.length_erase_of_mem hm] at h2
      omega
    · have h2 := own_pigeon N L hn (fun v hv => by
        have h3 := h v hv
        have h4 : v ≠ N := fun e => hm (e ▸ hv)
        omega)
      omega
theorem own_lenlt {N v : Nat} {L : List Nat} (h1 : L.Nodup) (h2 : ∀ v ∈ L, v < N) (h3 : v < N) (h4 : v ∉ L) : L.length < N := by
  have := own_pigeon N (v :: L) (List.nodup_cons.mpr ⟨h4, h1⟩) (fun u hu => by
    rcases List.mem_cons.mp hu with rfl | h
    · exact h3
    · exact h2 u h)
  simp only [List.length_cons] at this
  omega
theorem VQ.added {Z : State} {h : Heap} {q r w : Addr} {N v I H : Nat} {L : List Nat} {ring wt : List Value} {hd ct p : Int32} (E : Exa Z h q "com/example/leeway/leeway/solver/VariableQueue") (f1 : Fld Z h q "com/example/leeway/leeway/solver/VariableQueue" "ring" "[I" (.ref r)) (f2 : Fld Z h q "com/example/leeway/leeway/solver/VariableQueue" "waiting" "[Z" (.ref w)) (f3 : Fld Z h q "com/example/leeway/leeway/solver/VariableQueue" "head" "I" (.int hd)) (f4 : Fld Z h q "com/example/leeway/leeway/solver/VariableQueue" "count" "I" (.int ct))
    (A : AI Z h r .int (ring.set I (.int p))) (B : AI Z h w .boolean (wt.set v (.int 1))) (l1 : ring.length = N) (l2 : wt.length = N) (e1 : hd.toInt = H) (e2 : ct.toInt = L.length + 1) (hH : H < N) (hn : L.Nodup) (hb : ∀ v ∈ L, v < N) (hr : ∀ (i v : Nat), L[i]? = some v → ∃ x : Int32, ring[(H + i) % N]? = some (.int x) ∧ x.toInt = v)
    (hw : ∀ v, v < N → wt[v]? = some (.int (if v ∈ L then 1 else 0))) (hv : v < N) (hL : v ∉ L) (hp : p.toInt = v) (hI : I = (H + L.length) % N) : VQ Z h q r w N (L ++ [v]) := by
  have hlt := own_lenlt hn hb hv hL
  have hIN : I < N := by rw [hI]; exact Nat.mod_lt _ (by omega)
  refine ⟨_, _, hd, ct, H, E, f1, f2, f3, f4, A, B, by simpa using l1, by simpa using l2, e1, by simpa using e2, hH, ?_, ?_, ?_, ?_⟩
  · rw [List.nodup_append]
    exact ⟨hn, by simp, fun a ha b hb' => by rw [List.mem_singleton.mp hb']; exact fun e => hL (e ▸ ha)⟩
  · intro u hu
    rcases List.mem_append.mp hu with h | h
    · exact hb u h
    · rw [List.mem_singleton.mp h]; exact hv
  · intro i u hu
    by_cases hi : i < L.length
    · rw [List.getElem?_append_left hi] at hu
      obtain ⟨x, hx, hx'⟩ := hr i u hu
      refine ⟨x, ?_, hx'⟩
      rw [List.getElem?_set_ne, hx]
      rw [hI]
      have a := own_mod hH (Nat.lt_trans hi hlt); have b := own_mod hH hlt
      omega
    · have hi' : i = L.length := by
        have := (List.getElem?_eq_some_iff.mp hu).1
        simp at this; omega
      subst hi'
      simp at hu
      subst hu
      refine ⟨p, ?_, hp⟩
      rw [← hI, List.getElem?_set_self (by rw [l1]; exact hIN)]
  · intro u hu
    by_cases e : u = v
    · subst e
      rw [List.getElem?_set_self (by rw [l2]; exact hu)]
      simp
    · rw [List.getElem?_set_ne (fun z => e z.symm), hw u hu]
      simp [e]
theorem VQ.polled {Z : State} {h : Heap} {q r w : Addr} {N v H H' : Nat} {L : List Nat} {ring wt : List Value} {hd ct : Int32} (E : Exa Z h q "com/example/leeway/leeway/solver/VariableQueue") (f1 : Fld Z h q "com/example/leeway/leeway/solver/VariableQueue" "ring" "[I" (.ref r)) (f2 : Fld Z h q "com/example/leeway/leeway/solver/VariableQueue" "waiting" "[Z" (.ref w)) (f3 : Fld Z h q "com/example/leeway/leeway/solver/VariableQueue" "head" "I" (.int hd)) (f4 : Fld Z h q "com/example/leeway/leeway/solver/VariableQueue" "count" "I" (.int ct))
    (A : AI Z h r .int ring) (B : AI Z h w .boolean (wt.set v (.int 0))) (l1 : ring.length = N) (l2 : wt.length = N) (e1 : hd.toInt = H') (e2 : ct.toInt = L.length) (hH : H < N) (hn : (v :: L).Nodup) (hb : ∀ u ∈ v :: L, u < N) (hr : ∀ (i u : Nat), (v :: L)[i]? = some u → ∃ x : Int32, ring[(H + i) % N]? = some (.int x) ∧ x.toInt = u)
    (hw : ∀ u, u < N → wt[u]? = some (.int (if u ∈ v :: L then 1 else 0))) (hI : H' = (H + 1) % N) : VQ Z h q r w N L := by
  have hlen := own_pigeon N _ hn hb
  simp only [List.length_cons] at hlen
  have hv : v < N := hb v (List.mem_cons_self ..)
  have hnv : v ∉ L := (List.nodup_cons.mp hn).1
  refine ⟨ring, _, hd, ct, H', E, f1, f2, f3, f4, A, B, l1, by simpa using l2, e1, e2, ?_, (List.nodup_cons.mp hn).2, fun u hu => hb u (List.mem_cons_of_mem _ hu), ?_, ?_⟩
  · rw [hI]; exact Nat.mod_lt _ (by omega)
  · intro i u hu
    obtain ⟨x, hx, hx'⟩ := hr (i + 1) u (by simpa using hu)
    refine ⟨x, ?_, hx'⟩
    rw [← hx, hI, Nat.mod_add_mod]
    congr 2; omega
  · intro u hu
    by_cases e : u = v
    · subst e
      rw [List.getElem?_set_self (by rw [l2]; exact hu)]
      simp [hnv]
    · rw [List.getElem?_set_ne (fun z => e z.symm), hw u hu]
      simp [e]
theorem own_mod1 {H N : Nat} (h1 : H < N) : H + 1 < N ∧ (H + 1) % N = H + 1 ∨ H + 1 = N ∧ (H + 1) % N = 0 := by
  by_cases h : H + 1 < N
  · exact Or.inl ⟨h, Nat.mod_eq_of_lt h⟩
  · have e : H + 1 = N := by omega
    exact Or.inr ⟨e, by rw [e, Nat.mod_self]⟩
theorem own_nz {y : Int32} (h : y.toInt ≠ 0) : y ≠ 0 := fun e => h (by rw [e]; rfl)
theorem own_rem {t x y : Int32} {N : Nat} (e : t = x % y) (h1 : 0 ≤ x.toInt) (h2 : y.toInt = N) (h3 : 1 ≤ N) : ∃ X : Nat, t.toInt = X ∧ X < N := by
  have := (c_iremV x y).1 h1 (by omega); subst e
  exact ⟨(x % y).toInt.toNat, by omega, by omega⟩
def own_R (L : List Nat) (m0 m1 m2 m3 : Int32) : Prop := m3.toInt = L.length ∧ L.length ≤ 3 ∧ (∀ v : Nat, L[0]? = some v → m0.toInt = v) ∧ (∀ v : Nat, L[1]? = some v → m1.toInt = v) ∧ (∀ v : Nat, L[2]? = some v → m2.toInt = v)
theorem own_lists {L : List Nat} (h : L.length ≤ 3) : L = [] ∨ (∃ a, L = [a]) ∨ (∃ a b, L = [a, b]) ∨ ∃ a b c, L = [a, b, c] := by
  match L, h with
  | [], _ => exact Or.inl rfl
  | [a], _ => exact Or.inr (Or.inl ⟨a, rfl⟩)
  | [a, b], _ => exact Or.inr (Or.inr (Or.inl ⟨a, b, rfl⟩))
  | [a, b, c], _ => exact Or.inr (Or.inr (Or.inr ⟨a, b, c, rfl⟩))
theorem own_has {L : List Nat} {m0 m1 m2 m3 p : Int32} {v : Nat} (h : own_R L m0 m1 m2 m3) (hp : p.toInt = v) : (0 < m3.toInt ∧ m0.toInt = p.toInt ∨ 1 < m3.toInt ∧ m1.toInt = p.toInt ∨ 2 < m3.toInt ∧ m2.toInt = p.toInt) ↔ v ∈ L := by
  obtain ⟨h3, hl, h0, h1, h2⟩ := h
  rcases own_lists hl with rfl | ⟨a, rfl⟩ | ⟨a, b, rfl⟩ | ⟨a, b, d, rfl⟩
  · simp at h3 ⊢; omega
  · have := h0 a rfl; simp at h3 ⊢; omega
  · have := h0 a rfl; have := h1 b rfl; simp at h3 ⊢; omega
  · have := h0 a rfl; have := h1 b rfl; have := h2 d rfl; simp at h3 ⊢; omega
theorem own_pop {L : List Nat} {v : Nat} {m0 m1 m2 m3 t : Int32} (h : own_R (v :: L) m0 m1 m2 m3) (ht : t.toInt = m3.toInt - 1) : own_R L m1 m2 m2 t := by
  obtain ⟨h3, hl, h0, h1, h2⟩ := h
  simp only [List.length_cons] at h3 hl
  refine ⟨by omega, by omega, fun u hu => h1 u (by simpa using hu), fun u hu => h2 u (by simpa using hu), fun u hu => ?_⟩
  have := (List.getElem?_eq_some_iff.mp hu).1
  omega

theorem d3_0 : decode jdk_29_method_65_code 0 = .ok (.iload_n 0, 1) := by decide +kernel
theorem d3_1 : decode jdk_29_method_65_code 1 = .ok (.iload_n 1, 1) := by decide +kernel
theorem d3_2 : decode jdk_29_method_65_code 2 = .ok (.if_icmp .lt 7, 3) := by decide +kernel
theorem d3_5 : decode jdk_29_method_65_code 5 = .ok (.iload_n 0, 1) := by decide +kernel
theorem d3_6 : decode jdk_29_method_65_code 6 = .ok (.goto 4, 3) := by decide +kernel
theorem d3_9 : decode jdk_29_method_65_code 9 = .ok (.iload_n 1, 1) := by decide +kernel
theorem d3_10 : decode jdk_29_method_65_code 10 = .ok (.ireturn, 1) := by decide +kernel
theorem pn_3 : plainFor (⟨"java/lang/Math", "max", "(II)I"⟩ : MethodName) = true := by first | exact plainFor_of_name (by first | (simp [plainName, overriddenIn]; done) | decide +kernel) | decide +kernel
set_option maxRecDepth 65536 in
set_option maxHeartbeats 40000000 in
theorem rm_3 (l : Launch) (Z : State) (a0 : Array Value) (hw : ∀ d ∈ tables_1, d.before a0 Z = true) (p0 p1 : Int32) (h : Heap) (n0 : Nat) (Z0 : n0 ≤ h.size)  :
    Does l Z (⟨"java/lang/Math", "max", "(II)I"⟩ : MethodName) jdk_29_method_65_code 2 (some .int) ({ frames := 0, cells := 0, slots := 0, locals := 0 } : Room) #[(.int p0), (.int p1)] h n0 (fun v h' => h = h' ∧ ∃ r : Int32, v = some (.int r) ∧ (r.toInt = p0.toInt ∧ p1.toInt ≤ p0.toInt ∨ r.toInt = p1.toInt ∧ p0.toInt ≤ p1.toInt)) := by
  refine Does.of_body pn_3 [.val (.int p0), .val (.int p1)] (fun m => by first | (simp [entryFrame, mkF, argsToLocals, Value.category]; done) | rfl) ?_
  intro W hWl cx
  subst hWl
  have cx : Cx W Z "java/lang/Math" "max" jdk_29_method_65_code 2 (some .int) := cx
  refine Ok.iloadN cx d3_0 rfl 1 rfl ?_
  refine Ok.iloadN cx d3_1 rfl 2 rfl ?_
  refine Ok.icmp_lt cx d3_2 9 5 (by decide) rfl (fun c2 => ?_) (fun c2 => ?_)
  · skip
    refine Ok.iloadN cx d3_9 rfl 10 rfl ?_
    exact Ok.ireturn cx d3_10 (by decide) (by decide) ⟨rfl, _, rfl, by omega⟩
  · skip
    refine Ok.iloadN cx d3_5 rfl 6 rfl ?_
    refine Ok.goto cx d3_6 10 (by decide) ?_
    exact Ok.ireturn cx d3_10 (by decide) (by decide) ⟨rfl, _, rfl, by omega⟩
theorem d1_0 : decode prog_77_method_1_code 0 = .ok (.aload_n 0, 1) := by decide +kernel
theorem d1_1 : decode prog_77_method_1_code 1 = .ok (.invokespecial 1, 3) := by decide +kernel
theorem d1_4 : decode prog_77_method_1_code 4 = .ok (.aload_n 0, 1) := by decide +kernel
theorem d1_5 : decode prog_77_method_1_code 5 = .ok (.iconst 1, 1) := by decide +kernel
theorem d1_6 : decode prog_77_method_1_code 6 = .ok (.iload_n 1, 1) := by decide +kernel
theorem d1_7 : decode prog_77_method_1_code 7 = .ok (.invokestatic 7, 3) := by decide +kernel
theorem d1_10 : decode prog_77_method_1_code 10 = .ok (.newarray .int, 2) := by decide +kernel
theorem d1_12 : decode prog_77_method_1_code 12 = .ok (.putfield 13, 3) := by decide +kernel
theorem d1_15 : decode prog_77_method_1_code 15 = .ok (.aload_n 0, 1) := by decide +kernel
theorem d1_16 : decode prog_77_method_1_code 16 = .ok (.iload_n 1, 1) := by decide +kernel
theorem d1_17 : decode prog_77_method_1_code 17 = .ok (.newarray .boolean, 2) := by decide +kernel
theorem d1_19 : decode prog_77_method_1_code 19 = .ok (.putfield 19, 3) := by decide +kernel
theorem d1_22 : decode prog_77_method_1_code 22 = .ok (.return_, 1) := by decide +kernel
theorem pn_1 : plainFor (⟨"com/example/leeway/leeway/solver/VariableQueue", "<init>", "(I)V"⟩ : MethodName) = true := by first | exact plainFor_of_name (by first | (simp [plainName, overriddenIn]; done) | decide +kernel) | decide +kernel
theorem pd_0 : parseMethodDescriptor "(II)I" = some ⟨[.int, .int], some .int⟩ := by decide +kernel
set_option maxRecDepth 65536 in
set_option maxHeartbeats 40000000 in
theorem rm_1 (l : Launch) (Z : State) (a0 : Array Value) (hw : ∀ d ∈ tables_1, d.before a0 Z = true) (q : Addr) (p : Int32) (N : Nat) (h : Heap) (n0 : Nat) (Z0 : n0 ≤ h.size) (E_q : Exa Z h q "com/example/leeway/leeway/solver/VariableQueue") (F_ring : Fld Z h q "com/example/leeway/leeway/solver/VariableQueue" "ring" "[I" .null) (F_waiting : Fld Z h q "com/example/leeway/leeway/solver/VariableQueue" "waiting" "[Z" .null) (F_head : Fld Z h q "com/example/leeway/leeway/solver/VariableQueue" "head" "I" (.int 0)) (F_count : Fld Z h q "com/example/leeway/leeway/solver/VariableQueue" "count" "I" (.int 0)) (zq : n0 ≤ q) (hp : p.toInt = N) (hN1 : 1 ≤ N) (hN : N ≤ 4) :
    Does l Z (⟨"com/example/leeway/leeway/solver/VariableQueue", "<init>", "(I)V"⟩ : MethodName) prog_77_method_1_code 2 none ({ frames := 1, cells := 2, slots := 8, locals := 14 } : Room) #[(.ref q), (.int p)] h n0 (fun v h' => v = none ∧ ∃ r w, VQ Z h' q r w N [] ∧ q ≠ r ∧ q ≠ w ∧ r ≠ w ∧ n0 ≤ h'.size ∧ n0 ≤ r ∧ n0 ≤ w) := by
  refine Does.of_body pn_1 [.val (.ref q), .val (.int p)] (fun m => by first | (simp [entryFrame, mkF, argsToLocals, Value.category]; done) | rfl) ?_
  intro W hWl cx
  subst hWl
  have cx : Cx W Z "com/example/leeway/leeway/solver/VariableQueue" "<init>" prog_77_method_1_code 2 none := cx
  have l32_1 : (1 : Int32).toInt = 1 := rfl
  refine Ok.aloadN cx d1_0 rfl 1 rfl ?_
  refine Ok.initObj cx (own_w hw 6 rfl) (own_w hw 7 rfl) (own_w hw 8 rfl) d1_1 rfl (by decide) 0 rfl (by decide) 4 rfl ?_
  refine Ok.aloadN cx d1_4 rfl 5 rfl ?_
  refine Ok.iconst cx d1_5 6 rfl (1 : Int32) rfl ?_
  refine Ok.iloadN cx d1_6 rfl 7 rfl ?_
  refine Ok.callStatic cx [(.int (1 : Int32)), (.int p)] [(.ref q)] rfl (own_w hw 9 rfl) (own_w hw 10 rfl) (own_w hw 11 rfl) (own_w hw 12 rfl) d1_7 (by decide) pd_0 rfl rfl  (rm_3 W.l Z a0 hw (1 : Int32) p h n0 Z0) (by decide) 1 rfl (by decide) (by decide) (by decide) 10 rfl fun v7 h7_ q7 => ?_
  obtain ⟨rfl, mx, rfl, xm⟩ := q7
  show Ok _ _ _ _ _ _ _ _ _ [(.int mx), (.ref q)]
  refine Ok.newarray cx (own_w hw 13 rfl) d1_10 rfl (N) (by omega) (by omega) 4 (by omega) (by omega) (by decide) (by decide) 12 rfl fun h10_ r g10 E10 V10 => ?_
  have zr : n0 ≤ r := by rw [g10]; exact Z0
  have ne_q_r : q ≠ r := by rw [g10]; exact Nat.ne_of_lt E_q.lt
  have ne_q_r : q ≠ r := by rw [g10]; exact Nat.ne_of_lt F_ring.lt
  have ne_q_r : q ≠ r := by rw [g10]; exact Nat.ne_of_lt F_waiting.lt
  have ne_q_r : q ≠ r := by rw [g10]; exact Nat.ne_of_lt F_head.lt
  have ne_q_r : q ≠ r := by rw [g10]; exact Nat.ne_of_lt F_count.lt
  have Z0 := Nat.le_trans Z0 E10.1
  have E_q := E_q.ext E10
  have F_ring := F_ring.ext E10
  have F_waiting := F_waiting.ext E10
  have F_head := F_head.ext E10
  have F_count := F_count.ext E10
  refine Ok.putfield cx (own_w hw 14 rfl) d1_12 F_ring E_q (Or.inr ⟨(own_w hw 15 rfl), rfl, rfl⟩) (own_w hw 1 rfl) (ty := (.array .int)) (by decide) rfl rfl (by first | assumption | omega) 15 rfl fun h12_ W12 G12 => ?_
  have Z0 := Nat.le_trans Z0 (Nat.le_of_eq W12.size.symm)
  have E_q := E_q.wr W12
  have F_waiting := F_waiting.other W12 (Or.inr (slot_ne (a0 := a0) (Or.inr (own_w hw 18 rfl)) (Or.inr (own_w hw 15 rfl)) (by decide) (t := (.array .boolean)) (t' := (.array .int)) (by decide) (by decide)))
  have F_head := F_head.other W12 (Or.inr (slot_ne (a0 := a0) (Or.inl (own_w hw 29 rfl)) (Or.inr (own_w hw 15 rfl)) (by decide) (t := .int) (t' := (.array .int)) (by decide) (by decide)))
  have F_count := F_count.other W12 (Or.inr (slot_ne (a0 := a0) (Or.inl (own_w hw 31 rfl)) (Or.inr (own_w hw 15 rfl)) (by decide) (t := .int) (t' := (.array .int)) (by decide) (by decide)))
  have V10 := V10.other W12 (by first | assumption | (apply Ne.symm; assumption))
  have F_ring := G12
  refine Ok.aloadN cx d1_15 rfl 16 rfl ?_
  refine Ok.iloadN cx d1_16 rfl 17 rfl ?_
  refine Ok.newarray cx (own_w hw 16 rfl) d1_17 rfl (N) hp (by omega) 4 (by omega) (by omega) (by decide) (by decide) 19 rfl fun h17_ w g17 E17 V17 => ?_
  have zw : n0 ≤ w := by rw [g17]; exact Z0
  have ne_q_w : q ≠ w := by rw [g17]; exact Nat.ne_of_lt E_q.lt
  have ne_q_w : q ≠ w := by rw [g17]; exact Nat.ne_of_lt F_ring.lt
  have ne_q_w : q ≠ w := by rw [g17]; exact Nat.ne_of_lt F_waiting.lt
  have ne_q_w : q ≠ w := by rw [g17]; exact Nat.ne_of_lt F_head.lt
  have ne_q_w : q ≠ w := by rw [g17]; exact Nat.ne_of_lt F_count.lt
  have ne_r_w : r ≠ w := by rw [g17]; exact Nat.ne_of_lt V10.lt
  have Z0 := Nat.le_trans Z0 E17.1
  have E_q := E_q.ext E17
  have F_ring := F_ring.ext E17
  have F_waiting := F_waiting.ext E17
  have F_head := F_head.ext E17
  have F_count := F_count.ext E17
  have V10 := V10.ext E17
  refine Ok.putfield cx (own_w hw 17 rfl) d1_19 F_waiting E_q (Or.inr ⟨(own_w hw 18 rfl), rfl, rfl⟩) (own_w hw 1 rfl) (ty := (.array .boolean)) (by decide) rfl rfl (by first | assumption | omega) 22 rfl fun h19_ W19 G19 => ?_
  have Z0 := Nat.le_trans Z0 (Nat.le_of_eq W19.size.symm)
  have E_q := E_q.wr W19
  have F_ring := F_ring.other W19 (Or.inr (slot_ne (a0 := a0) (Or.inr (own_w hw 15 rfl)) (Or.inr (own_w hw 18 rfl)) (by decide) (t := (.array .int)) (t' := (.array .boolean)) (by decide) (by decide)))
  have F_head := F_head.other W19 (Or.inr (slot_ne (a0 := a0) (Or.inl (own_w hw 29 rfl)) (Or.inr (own_w hw 18 rfl)) (by decide) (t := .int) (t' := (.array .boolean)) (by decide) (by decide)))
  have F_count := F_count.other W19 (Or.inr (slot_ne (a0 := a0) (Or.inl (own_w hw 31 rfl)) (Or.inr (own_w hw 18 rfl)) (by decide) (t := .int) (t' := (.array .boolean)) (by decide) (by decide)))
  have V10 := V10.other W19 (by first | assumption | (apply Ne.symm; assumption))
  have V17 := V17.other W19 (by first | assumption | (apply Ne.symm; assumption))
  have F_waiting := G19
  exact Ok.vreturn cx d1_22 (by decide) (by decide) ⟨rfl, r, w, ⟨_, _, _, _, 0, E_q, F_ring, F_waiting, F_head, F_count, V10, V17, by simp, by simp, rfl, rfl, by omega, List.nodup_nil, (fun v hv => nomatch hv), (fun i v hv => by simp at hv), (fun v hv => by rw [List.getElem?_replicate]; simp [hv]; rfl)⟩, ne_q_r, ne_q_w, ne_r_w, Z0, zr, zw⟩
theorem d5_0 : decode prog_77_method_2_code 0 = .ok (.aload_n 0, 1) := by decide +kernel
theorem d5_1 : decode prog_77_method_2_code 1 = .ok (.getfield 19, 3) := by decide +kernel
theorem d5_4 : decode prog_77_method_2_code 4 = .ok (.iload_n 1, 1) := by decide +kernel
theorem d5_5 : decode prog_77_method_2_code 5 = .ok (.baload, 1) := by decide +kernel
theorem d5_6 : decode prog_77_method_2_code 6 = .ok (.ifCond .ne 7, 3) := by decide +kernel
theorem d5_9 : decode prog_77_method_2_code 9 = .ok (.iconst 1, 1) := by decide +kernel
theorem d5_10 : decode prog_77_method_2_code 10 = .ok (.goto 4, 3) := by decide +kernel
theorem d5_13 : decode prog_77_method_2_code 13 = .ok (.iconst 0, 1) := by decide +kernel
theorem d5_14 : decode prog_77_method_2_code 14 = .ok (.istore_n 2, 1) := by decide +kernel
theorem d5_15 : decode prog_77_method_2_code 15 = .ok (.iload_n 2, 1) := by decide +kernel
theorem d5_16 : decode prog_77_method_2_code 16 = .ok (.ifCond .eq 56, 3) := by decide +kernel
theorem d5_19 : decode prog_77_method_2_code 19 = .ok (.aload_n 0, 1) := by decide +kernel
theorem d5_20 : decode prog_77_method_2_code 20 = .ok (.getfield 19, 3) := by decide +kernel
theorem d5_23 : decode prog_77_method_2_code 23 = .ok (.iload_n 1, 1) := by decide +kernel
theorem d5_24 : decode prog_77_method_2_code 24 = .ok (.iconst 1, 1) := by decide +kernel
theorem d5_25 : decode prog_77_method_2_code 25 = .ok (.bastore, 1) := by decide +kernel
theorem d5_26 : decode prog_77_method_2_code 26 = .ok (.aload_n 0, 1) := by decide +kernel
theorem d5_27 : decode prog_77_method_2_code 27 = .ok (.getfield 23, 3) := by decide +kernel
theorem d5_30 : decode prog_77_method_2_code 30 = .ok (.aload_n 0, 1) := by decide +kernel
theorem d5_31 : decode prog_77_method_2_code 31 = .ok (.getfield 27, 3) := by decide +kernel
theorem d5_34 : decode prog_77_method_2_code 34 = .ok (.iadd, 1) := by decide +kernel
theorem d5_35 : decode prog_77_method_2_code 35 = .ok (.istore_n 3, 1) := by decide +kernel
theorem d5_36 : decode prog_77_method_2_code 36 = .ok (.aload_n 0, 1) := by decide +kernel
theorem d5_37 : decode prog_77_method_2_code 37 = .ok (.getfield 13, 3) := by decide +kernel
theorem d5_40 : decode prog_77_method_2_code 40 = .ok (.iload_n 3, 1) := by decide +kernel
theorem d5_41 : decode prog_77_method_2_code 41 = .ok (.aload_n 0, 1) := by decide +kernel
theorem d5_42 : decode prog_77_method_2_code 42 = .ok (.getfield 13, 3) := by decide +kernel
theorem d5_45 : decode prog_77_method_2_code 45 = .ok (.arraylength, 1) := by decide +kernel
theorem d5_46 : decode prog_77_method_2_code 46 = .ok (.if_icmp .ge 7, 3) := by decide +kernel
theorem d5_49 : decode prog_77_method_2_code 49 = .ok (.iload_n 3, 1) := by decide +kernel
theorem d5_50 : decode prog_77_method_2_code 50 = .ok (.goto 10, 3) := by decide +kernel
theorem d5_53 : decode prog_77_method_2_code 53 = .ok (.iload_n 3, 1) := by decide +kernel
theorem d5_54 : decode prog_77_method_2_code 54 = .ok (.aload_n 0, 1) := by decide +kernel
theorem d5_55 : decode prog_77_method_2_code 55 = .ok (.getfield 13, 3) := by decide +kernel
theorem d5_58 : decode prog_77_method_2_code 58 = .ok (.arraylength, 1) := by decide +kernel
theorem d5_59 : decode prog_77_method_2_code 59 = .ok (.isub, 1) := by decide +kernel
theorem d5_60 : decode prog_77_method_2_code 60 = .ok (.iload_n 1, 1) := by decide +kernel
theorem d5_61 : decode prog_77_method_2_code 61 = .ok (.iastore, 1) := by decide +kernel
theorem d5_62 : decode prog_77_method_2_code 62 = .ok (.aload_n 0, 1) := by decide +kernel
theorem d5_63 : decode prog_77_method_2_code 63 = .ok (.dup, 1) := by decide +kernel
theorem d5_64 : decode prog_77_method_2_code 64 = .ok (.getfield 27, 3) := by decide +kernel
theorem d5_67 : decode prog_77_method_2_code 67 = .ok (.iconst 1, 1) := by decide +kernel
theorem d5_68 : decode prog_77_method_2_code 68 = .ok (.iadd, 1) := by decide +kernel
theorem d5_69 : decode prog_77_method_2_code 69 = .ok (.putfield 27, 3) := by decide +kernel
theorem d5_72 : decode prog_77_method_2_code 72 = .ok (.iload_n 2, 1) := by decide +kernel
theorem d5_73 : decode prog_77_method_2_code 73 = .ok (.ireturn, 1) := by decide +kernel
theorem pn_5 : plainFor (⟨"com/example/leeway/leeway/solver/VariableQueue", "add", "(I)Z"⟩ : MethodName) = true := by first | exact plainFor_of_name (by first | (simp [plainName, overriddenIn]; done) | decide +kernel) | decide +kernel
set_option maxRecDepth 65536 in
set_option maxHeartbeats 40000000 in
theorem rm_5 (l : Launch) (Z : State) (a0 : Array Value) (hw : ∀ d ∈ tables_1, d.before a0 Z = true) (q r w : Addr) (p : Int32) (N v : Nat) (L : List Nat) (h : Heap) (n0 : Nat) (Z0 : n0 ≤ h.size) (G : VQ Z h q r w N L) (nqr : q ≠ r) (nqw : q ≠ w) (nrw : r ≠ w) (zq : n0 ≤ q) (zr : n0 ≤ r) (zw : n0 ≤ w) (hN : N ≤ 4) (hp : p.toInt = v) (hv : v < N) :
    Does l Z (⟨"com/example/leeway/leeway/solver/VariableQueue", "add", "(I)Z"⟩ : MethodName) prog_77_method_2_code 4 (some .boolean) ({ frames := 0, cells := 0, slots := 0, locals := 0 } : Room) #[(.ref q), (.int p)] h n0 (fun v' h' => n0 ≤ h'.size ∧ Keep h h' [q, r, w] ∧ ∃ x : Int32, v' = some (.int x) ∧ (v ∈ L ∧ x.toInt = 0 ∧ VQ Z h' q r w N L ∨ v ∉ L ∧ x.toInt = 1 ∧ VQ Z h' q r w N (L ++ [v]))) := by
  refine Does.of_body pn_5 [.val (.ref q), .val (.int p), .unset, .unset] (fun m => by first | (simp [entryFrame, mkF, argsToLocals, Value.category]; done) | rfl) ?_
  intro W hWl cx
  subst hWl
  have cx : Cx W Z "com/example/leeway/leeway/solver/VariableQueue" "add" prog_77_method_2_code 4 (some .boolean) := cx
  have lz1 : ((1 : Int32) &&& 1).toInt = 1 := rfl
  have lz0 : ((0 : Int32) &&& 1).toInt = 0 := rfl
  have l32_1 : (1 : Int32).toInt = 1 := rfl
  have l32_0 : (0 : Int32).toInt = 0 := rfl
  obtain ⟨ring, wt, hd, ct, H, E_q, F_ring, F_waiting, F_head, F_count, A_r, A_w, l1, l2, eH, eC, hH, hnd, hbd, hrg, hwt⟩ := G
  have hNi := own_n32 (N := N) (by omega)
  have hln := own_pigeon N L hnd hbd
  have K_h := Keep.refl h [q, r, w]
  refine Ok.aloadN cx d5_0 rfl 1 rfl ?_
  refine Ok.getfield cx (own_w hw 17 rfl) d5_1 F_waiting 4 rfl ?_
  refine Ok.iloadN cx d5_4 rfl 5 rfl ?_
  by_cases hvL : v ∈ L
  · skip
    have hx5 := hwt v hv; rw [if_pos hvL] at hx5
    refine Ok.zaload cx d5_5 A_w (v) hp (v := (.int (1 : Int32))) hx5 6 rfl ?_
    refine Ok.if_ne cx d5_6 13 9 (by decide) rfl (fun c6 => ?_) (fun c6 => by exfalso; omega)
    refine Ok.iconst cx d5_13 14 rfl (0 : Int32) rfl ?_
    refine Ok.istoreN cx d5_14 rfl One.u [.val (.ref q), .val (.int p), .val (.int (0 : Int32)), .unset] rfl 15 rfl ?_
    refine Ok.iloadN cx d5_15 rfl 16 rfl ?_
    refine Ok.if_eq cx d5_16 72 19 (by decide) rfl (fun c16 => ?_) (fun c16 => by exfalso; omega)
    refine Ok.iloadN cx d5_72 rfl 73 rfl ?_
    exact Ok.zreturn cx d5_73 (by decide) (by decide) ⟨Z0, K_h, _, rfl, Or.inl ⟨hvL, rfl, ring, wt, hd, ct, H, E_q, F_ring, F_waiting, F_head, F_count, A_r, A_w, l1, l2, eH, eC, hH, hnd, hbd, hrg, hwt⟩⟩
  · skip
    have hx5 := hwt v hv; rw [if_neg hvL] at hx5
    have hll := own_lenlt hnd hbd hv hvL
    refine Ok.zaload cx d5_5 A_w (v) hp (v := (.int (0 : Int32))) hx5 6 rfl ?_
    refine Ok.if_ne cx d5_6 13 9 (by decide) rfl (fun c6 => by exfalso; omega) (fun c6 => ?_)
    refine Ok.iconst cx d5_9 10 rfl (1 : Int32) rfl ?_
    refine Ok.goto cx d5_10 14 (by decide) ?_
    refine Ok.istoreN cx d5_14 rfl One.u [.val (.ref q), .val (.int p), .val (.int (1 : Int32)), .unset] rfl 15 rfl ?_
    refine Ok.iloadN cx d5_15 rfl 16 rfl ?_
    refine Ok.if_eq cx d5_16 72 19 (by decide) rfl (fun c16 => by exfalso; omega) (fun c16 => ?_)
    refine Ok.aloadN cx d5_19 rfl 20 rfl ?_
    refine Ok.getfield cx (own_w hw 17 rfl) d5_20 F_waiting 23 rfl ?_
    refine Ok.iloadN cx d5_23 rfl 24 rfl ?_
    refine Ok.iconst cx d5_24 25 rfl (1 : Int32) rfl ?_
    refine Ok.zastore cx d5_25 A_w (v) hp (by omega) (by first | assumption | omega) 26 rfl fun h25_ W25 G25 => ?_
    have Z0 := Nat.le_trans Z0 (Nat.le_of_eq W25.size.symm)
    have E_q := E_q.wr W25
    have F_ring := F_ring.other W25 (Or.inl (by first | assumption | (apply Ne.symm; assumption)))
    have F_waiting := F_waiting.other W25 (Or.inl (by first | assumption | (apply Ne.symm; assumption)))
    have F_head := F_head.other W25 (Or.inl (by first | assumption | (apply Ne.symm; assumption)))
    have F_count := F_count.other W25 (Or.inl (by first | assumption | (apply Ne.symm; assumption)))
    have A_r := A_r.other W25 (by first | assumption | (apply Ne.symm; assumption))
    have K_h := K_h.wr W25 (Or.inl (List.mem_of_getElem? (i := 2) rfl))
    have A_w := G25
    refine Ok.aloadN cx d5_26 rfl 27 rfl ?_
    refine Ok.getfield cx (own_w hw 28 rfl) d5_27 F_head 30 rfl ?_
    refine Ok.aloadN cx d5_30 rfl 31 rfl ?_
    refine Ok.getfield cx (own_w hw 30 rfl) d5_31 F_count 34 rfl ?_
    refine Ok.iadd cx d5_34 35 rfl fun t34 e34 => ?_
    have s34 := own_add e34 (by omega) (by omega)
    refine Ok.istoreN cx d5_35 rfl One.u [.val (.ref q), .val (.int p), .val (.int (1 : Int32)), .val (.int t34)] rfl 36 rfl ?_
    refine Ok.aloadN cx d5_36 rfl 37 rfl ?_
    refine Ok.getfield cx (own_w hw 14 rfl) d5_37 F_ring 40 rfl ?_
    refine Ok.iloadN cx d5_40 rfl 41 rfl ?_
    refine Ok.aloadN cx d5_41 rfl 42 rfl ?_
    refine Ok.getfield cx (own_w hw 14 rfl) d5_42 F_ring 45 rfl ?_
    refine Ok.arraylength cx d5_45 A_r N.toInt32 (by rw [l1]) 46 rfl ?_
    refine Ok.icmp_ge cx d5_46 53 49 (by decide) rfl (fun c46 => ?_) (fun c46 => ?_)
    · skip
      refine Ok.iloadN cx d5_53 rfl 54 rfl ?_
      refine Ok.aloadN cx d5_54 rfl 55 rfl ?_
      refine Ok.getfield cx (own_w hw 14 rfl) d5_55 F_ring 58 rfl ?_
      refine Ok.arraylength cx d5_58 A_r N.toInt32 (by rw [l1]) 59 rfl ?_
      refine Ok.isub cx d5_59 60 rfl fun t59 e59 => ?_
      have s59 := own_sub e59 (by omega) (by omega)
      refine Ok.iloadN cx d5_60 rfl 61 rfl ?_
      refine Ok.iastore cx d5_61 A_r ((H + L.length) % N) (by have := own_mod hH hll; omega) (by rw [l1]; exact Nat.mod_lt _ (by omega)) (by first | assumption | omega) 62 rfl fun h61_ W61 G61 => ?_
      have Z0 := Nat.le_trans Z0 (Nat.le_of_eq W61.size.symm)
      have E_q := E_q.wr W61
      have F_ring := F_ring.other W61 (Or.inl (by first | assumption | (apply Ne.symm; assumption)))
      have F_waiting := F_waiting.other W61 (Or.inl (by first | assumption | (apply Ne.symm; assumption)))
      have F_head := F_head.other W61 (Or.inl (by first | assumption | (apply Ne.symm; assumption)))
      have F_count := F_count.other W61 (Or.inl (by first | assumption | (apply Ne.symm; assumption)))
      have A_w := A_w.other W61 (by first | assumption | (apply Ne.symm; assumption))
      have K_h := K_h.wr W61 (Or.inl (List.mem_of_getElem? (i := 1) rfl))
      have A_r := G61
      refine Ok.aloadN cx d5_62 rfl 63 rfl ?_
      refine Ok.dup cx d5_63 rfl 64 rfl ?_
      refine Ok.getfield cx (own_w hw 30 rfl) d5_64 F_count 67 rfl ?_
      refine Ok.iconst cx d5_67 68 rfl (1 : Int32) rfl ?_
      refine Ok.iadd cx d5_68 69 rfl fun t68 e68 => ?_
      have s68 := own_add e68 (by omega) (by omega)
      refine Ok.putfield cx (own_w hw 30 rfl) d5_69 F_count E_q (Or.inl (own_w hw 31 rfl)) (own_w hw 1 rfl) (ty := .int) (by decide) rfl rfl (by first | assumption | omega) 72 rfl fun h69_ W69 G69 => ?_
      have Z0 := Nat.le_trans Z0 (Nat.le_of_eq W69.size.symm)
      have E_q := E_q.wr W69
      have F_ring := F_ring.other W69 (Or.inr (slot_ne (a0 := a0) (Or.inr (own_w hw 15 rfl)) (Or.inl (own_w hw 31 rfl)) (by decide) (t := (.array .int)) (t' := .int) (by decide) (by decide)))
      have F_waiting := F_waiting.other W69 (Or.inr (slot_ne (a0 := a0) (Or.inr (own_w hw 18 rfl)) (Or.inl (own_w hw 31 rfl)) (by decide) (t := (.array .boolean)) (t' := .int) (by decide) (by decide)))
      have F_head := F_head.other W69 (Or.inr (slot_ne (a0 := a0) (Or.inl (own_w hw 29 rfl)) (Or.inl (own_w hw 31 rfl)) (by decide) (t := .int) (t' := .int) (by decide) (by decide)))
      have A_r := A_r.other W69 (by first | assumption | (apply Ne.symm; assumption))
      have A_w := A_w.other W69 (by first | assumption | (apply Ne.symm; assumption))
      have K_h := K_h.wr W69 (Or.inl (List.mem_of_getElem? (i := 0) rfl))
      have F_count := G69
      refine Ok.iloadN cx d5_72 rfl 73 rfl ?_
      exact Ok.zreturn cx d5_73 (by decide) (by decide) ⟨Z0, K_h, _, rfl, Or.inr ⟨hvL, rfl, VQ.added E_q F_ring F_waiting F_head F_count A_r A_w l1 l2 eH (by omega) hH hnd hbd hrg hwt hv hvL hp rfl⟩⟩
    · skip
      refine Ok.iloadN cx d5_49 rfl 50 rfl ?_
      refine Ok.goto cx d5_50 60 (by decide) ?_
      refine Ok.iloadN cx d5_60 rfl 61 rfl ?_
      refine Ok.iastore cx d5_61 A_r ((H + L.length) % N) (by have := own_mod hH hll; omega) (by rw [l1]; exact Nat.mod_lt _ (by omega)) (by first | assumption | omega) 62 rfl fun h61_ W61 G61 => ?_
      have Z0 := Nat.le_trans Z0 (Nat.le_of_eq W61.size.symm)
      have E_q := E_q.wr W61
      have F_ring := F_ring.other W61 (Or.inl (by first | assumption | (apply Ne.symm; assumption)))
      have F_waiting := F_waiting.other W61 (Or.inl (by first | assumption | (apply Ne.symm; assumption)))
      have F_head := F_head.other W61 (Or.inl (by first | assumption | (apply Ne.symm; assumption)))
      have F_count := F_count.other W61 (Or.inl (by first | assumption | (apply Ne.symm; assumption)))
      have A_w := A_w.other W61 (by first | assumption | (apply Ne.symm; assumption))
      have K_h := K_h.wr W61 (Or.inl (List.mem_of_getElem? (i := 1) rfl))
      have A_r := G61
      refine Ok.aloadN cx d5_62 rfl 63 rfl ?_
      refine Ok.dup cx d5_63 rfl 64 rfl ?_
      refine Ok.getfield cx (own_w hw 30 rfl) d5_64 F_count 67 rfl ?_
      refine Ok.iconst cx d5_67 68 rfl (1 : Int32) rfl ?_
      refine Ok.iadd cx d5_68 69 rfl fun t68 e68 => ?_
      have s68 := own_add e68 (by omega) (by omega)
      refine Ok.putfield cx (own_w hw 30 rfl) d5_69 F_count E_q (Or.inl (own_w hw 31 rfl)) (own_w hw 1 rfl) (ty := .int) (by decide) rfl rfl (by first | assumption | omega) 72 rfl fun h69_ W69 G69 => ?_
      have Z0 := Nat.le_trans Z0 (Nat.le_of_eq W69.size.symm)
      have E_q := E_q.wr W69
      have F_ring := F_ring.other W69 (Or.inr (slot_ne (a0 := a0) (Or.inr (own_w hw 15 rfl)) (Or.inl (own_w hw 31 rfl)) (by decide) (t := (.array .int)) (t' := .int) (by decide) (by decide)))
      have F_waiting := F_waiting.other W69 (Or.inr (slot_ne (a0 := a0) (Or.inr (own_w hw 18 rfl)) (Or.inl (own_w hw 31 rfl)) (by decide) (t := (.array .boolean)) (t' := .int) (by decide) (by decide)))
      have F_head := F_head.other W69 (Or.inr (slot_ne (a0 := a0) (Or.inl (own_w hw 29 rfl)) (Or.inl (own_w hw 31 rfl)) (by decide) (t := .int) (t' := .int) (by decide) (by decide)))
      have A_r := A_r.other W69 (by first | assumption | (apply Ne.symm; assumption))
      have A_w := A_w.other W69 (by first | assumption | (apply Ne.symm; assumption))
      have K_h := K_h.wr W69 (Or.inl (List.mem_of_getElem? (i := 0) rfl))
      have F_count := G69
      refine Ok.iloadN cx d5_72 rfl 73 rfl ?_
      exact Ok.zreturn cx d5_73 (by decide) (by decide) ⟨Z0, K_h, _, rfl, Or.inr ⟨hvL, rfl, VQ.added E_q F_ring F_waiting F_head F_count A_r A_w l1 l2 eH (by omega) hH hnd hbd hrg hwt hv hvL hp rfl⟩⟩
theorem d8_0 : decode prog_77_method_4_code 0 = .ok (.aload_n 0, 1) := by decide +kernel
theorem d8_1 : decode prog_77_method_4_code 1 = .ok (.getfield 13, 3) := by decide +kernel
theorem d8_4 : decode prog_77_method_4_code 4 = .ok (.aload_n 0, 1) := by decide +kernel
theorem d8_5 : decode prog_77_method_4_code 5 = .ok (.getfield 23, 3) := by decide +kernel
theorem d8_8 : decode prog_77_method_4_code 8 = .ok (.iaload, 1) := by decide +kernel
theorem d8_9 : decode prog_77_method_4_code 9 = .ok (.istore_n 1, 1) := by decide +kernel
theorem d8_10 : decode prog_77_method_4_code 10 = .ok (.aload_n 0, 1) := by decide +kernel
theorem d8_11 : decode prog_77_method_4_code 11 = .ok (.getfield 19, 3) := by decide +kernel
theorem d8_14 : decode prog_77_method_4_code 14 = .ok (.iload_n 1, 1) := by decide +kernel
theorem d8_15 : decode prog_77_method_4_code 15 = .ok (.iconst 0, 1) := by decide +kernel
theorem d8_16 : decode prog_77_method_4_code 16 = .ok (.bastore, 1) := by decide +kernel
theorem d8_17 : decode prog_77_method_4_code 17 = .ok (.aload_n 0, 1) := by decide +kernel
theorem d8_18 : decode prog_77_method_4_code 18 = .ok (.aload_n 0, 1) := by decide +kernel
theorem d8_19 : decode prog_77_method_4_code 19 = .ok (.getfield 23, 3) := by decide +kernel
theorem d8_22 : decode prog_77_method_4_code 22 = .ok (.iconst 1, 1) := by decide +kernel
theorem d8_23 : decode prog_77_method_4_code 23 = .ok (.iadd, 1) := by decide +kernel
theorem d8_24 : decode prog_77_method_4_code 24 = .ok (.aload_n 0, 1) := by decide +kernel
theorem d8_25 : decode prog_77_method_4_code 25 = .ok (.getfield 13, 3) := by decide +kernel
theorem d8_28 : decode prog_77_method_4_code 28 = .ok (.arraylength, 1) := by decide +kernel
theorem d8_29 : decode prog_77_method_4_code 29 = .ok (.if_icmp .ge 12, 3) := by decide +kernel
theorem d8_32 : decode prog_77_method_4_code 32 = .ok (.aload_n 0, 1) := by decide +kernel
theorem d8_33 : decode prog_77_method_4_code 33 = .ok (.getfield 23, 3) := by decide +kernel
theorem d8_36 : decode prog_77_method_4_code 36 = .ok (.iconst 1, 1) := by decide +kernel
theorem d8_37 : decode prog_77_method_4_code 37 = .ok (.iadd, 1) := by decide +kernel
theorem d8_38 : decode prog_77_method_4_code 38 = .ok (.goto 4, 3) := by decide +kernel
theorem d8_41 : decode prog_77_method_4_code 41 = .ok (.iconst 0, 1) := by decide +kernel
theorem d8_42 : decode prog_77_method_4_code 42 = .ok (.putfield 23, 3) := by decide +kernel
theorem d8_45 : decode prog_77_method_4_code 45 = .ok (.aload_n 0, 1) := by decide +kernel
theorem d8_46 : decode prog_77_method_4_code 46 = .ok (.dup, 1) := by decide +kernel
theorem d8_47 : decode prog_77_method_4_code 47 = .ok (.getfield 27, 3) := by decide +kernel
theorem d8_50 : decode prog_77_method_4_code 50 = .ok (.iconst 1, 1) := by decide +kernel
theorem d8_51 : decode prog_77_method_4_code 51 = .ok (.isub, 1) := by decide +kernel
theorem d8_52 : decode prog_77_method_4_code 52 = .ok (.putfield 27, 3) := by decide +kernel
theorem d8_55 : decode prog_77_method_4_code 55 = .ok (.iload_n 1, 1) := by decide +kernel
theorem d8_56 : decode prog_77_method_4_code 56 = .ok (.ireturn, 1) := by decide +kernel
theorem pn_8 : plainFor (⟨"com/example/leeway/leeway/solver/VariableQueue", "poll", "()I"⟩ : MethodName) = true := by first | exact plainFor_of_name (by first | (simp [plainName, overriddenIn]; done) | decide +kernel) | decide +kernel
set_option maxRecDepth 65536 in
set_option maxHeartbeats 40000000 in
theorem rm_8 (l : Launch) (Z : State) (a0 : Array Value) (hw : ∀ d ∈ tables_1, d.before a0 Z = true) (q r w : Addr) (N v : Nat) (L : List Nat) (h : Heap) (n0 : Nat) (Z0 : n0 ≤ h.size) (G : VQ Z h q r w N (v :: L)) (nqr : q ≠ r) (nqw : q ≠ w) (nrw : r ≠ w) (zq : n0 ≤ q) (zr : n0 ≤ r) (zw : n0 ≤ w) (hN : N ≤ 4) :
    Does l Z (⟨"com/example/leeway/leeway/solver/VariableQueue", "poll", "()I"⟩ : MethodName) prog_77_method_4_code 2 (some .int) ({ frames := 0, cells := 0, slots := 0, locals := 0 } : Room) #[(.ref q)] h n0 (fun v' h' => n0 ≤ h'.size ∧ Keep h h' [q, r, w] ∧ ∃ x : Int32, v' = some (.int x) ∧ x.toInt = v ∧ VQ Z h' q r w N L) := by
  refine Does.of_body pn_8 [.val (.ref q), .unset] (fun m => by first | (simp [entryFrame, mkF, argsToLocals, Value.category]; done) | rfl) ?_
  intro W hWl cx
  subst hWl
  have cx : Cx W Z "com/example/leeway/leeway/solver/VariableQueue" "poll" prog_77_method_4_code 2 (some .int) := cx
  have l32_0 : (0 : Int32).toInt = 0 := rfl
  have l32_1 : (1 : Int32).toInt = 1 := rfl
  obtain ⟨ring, wt, hd, ct, H, E_q, F_ring, F_waiting, F_head, F_count, A_r, A_w, l1, l2, eH, eC, hH, hnd, hbd, hrg, hwt⟩ := G
  have hNi := own_n32 (N := N) (by omega)
  have hln := own_pigeon N _ hnd hbd; simp only [List.length_cons] at hln eC
  have K_h := Keep.refl h [q, r, w]
  refine Ok.aloadN cx d8_0 rfl 1 rfl ?_
  refine Ok.getfield cx (own_w hw 14 rfl) d8_1 F_ring 4 rfl ?_
  refine Ok.aloadN cx d8_4 rfl 5 rfl ?_
  refine Ok.getfield cx (own_w hw 28 rfl) d8_5 F_head 8 rfl ?_
  obtain ⟨y, hy, hyv⟩ := hrg 0 v rfl
  rw [Nat.add_zero, Nat.mod_eq_of_lt hH] at hy
  have hvN : v < N := hbd v (List.mem_cons_self ..)
  refine Ok.iaload cx d8_8 A_r (H) eH (v := (.int y)) hy 9 rfl ?_
  refine Ok.istoreN cx d8_9 rfl One.u [.val (.ref q), .val (.int y)] rfl 10 rfl ?_
  refine Ok.aloadN cx d8_10 rfl 11 rfl ?_
  refine Ok.getfield cx (own_w hw 17 rfl) d8_11 F_waiting 14 rfl ?_
  refine Ok.iloadN cx d8_14 rfl 15 rfl ?_
  refine Ok.iconst cx d8_15 16 rfl (0 : Int32) rfl ?_
  refine Ok.zastore cx d8_16 A_w (v) hyv (by omega) (by first | assumption | omega) 17 rfl fun h16_ W16 G16 => ?_
  have Z0 := Nat.le_trans Z0 (Nat.le_of_eq W16.size.symm)
  have E_q := E_q.wr W16
  have F_ring := F_ring.other W16 (Or.inl (by first | assumption | (apply Ne.symm; assumption)))
  have F_waiting := F_waiting.other W16 (Or.inl (by first | assumption | (apply Ne.symm; assumption)))
  have F_head := F_head.other W16 (Or.inl (by first | assumption | (apply Ne.symm; assumption)))
  have F_count := F_count.other W16 (Or.inl (by first | assumption | (apply Ne.symm; assumption)))
  have A_r := A_r.other W16 (by first | assumption | (apply Ne.symm; assumption))
  have K_h := K_h.wr W16 (Or.inl (List.mem_of_getElem? (i := 2) rfl))
  have A_w := G16
  refine Ok.aloadN cx d8_17 rfl 18 rfl ?_
  refine Ok.aloadN cx d8_18 rfl 19 rfl ?_
  refine Ok.getfield cx (own_w hw 28 rfl) d8_19 F_head 22 rfl ?_
  refine Ok.iconst cx d8_22 23 rfl (1 : Int32) rfl ?_
  refine Ok.iadd cx d8_23 24 rfl fun t23 e23 => ?_
  have s23 := own_add e23 (by omega) (by omega)
  refine Ok.aloadN cx d8_24 rfl 25 rfl ?_
  refine Ok.getfield cx (own_w hw 14 rfl) d8_25 F_ring 28 rfl ?_
  refine Ok.arraylength cx d8_28 A_r N.toInt32 (by rw [l1]) 29 rfl ?_
  refine Ok.icmp_ge cx d8_29 41 32 (by decide) rfl (fun c29 => ?_) (fun c29 => ?_)
  · skip
    refine Ok.iconst cx d8_41 42 rfl (0 : Int32) rfl ?_
    refine Ok.putfield cx (own_w hw 28 rfl) d8_42 F_head E_q (Or.inl (own_w hw 29 rfl)) (own_w hw 1 rfl) (ty := .int) (by decide) rfl rfl (by first | assumption | omega) 45 rfl fun h42_ W42 G42 => ?_
    have Z0 := Nat.le_trans Z0 (Nat.le_of_eq W42.size.symm)
    have E_q := E_q.wr W42
    have F_ring := F_ring.other W42 (Or.inr (slot_ne (a0 := a0) (Or.inr (own_w hw 15 rfl)) (Or.inl (own_w hw 29 rfl)) (by decide) (t := (.array .int)) (t' := .int) (by decide) (by decide)))
    have F_waiting := F_waiting.other W42 (Or.inr (slot_ne (a0 := a0) (Or.inr (own_w hw 18 rfl)) (Or.inl (own_w hw 29 rfl)) (by decide) (t := (.array .boolean)) (t' := .int) (by decide) (by decide)))
    have F_count := F_count.other W42 (Or.inr (slot_ne (a0 := a0) (Or.inl (own_w hw 31 rfl)) (Or.inl (own_w hw 29 rfl)) (by decide) (t := .int) (t' := .int) (by decide) (by decide)))
    have A_r := A_r.other W42 (by first | assumption | (apply Ne.symm; assumption))
    have A_w := A_w.other W42 (by first | assumption | (apply Ne.symm; assumption))
    have K_h := K_h.wr W42 (Or.inl (List.mem_of_getElem? (i := 0) rfl))
    have F_head := G42
    refine Ok.aloadN cx d8_45 rfl 46 rfl ?_
    refine Ok.dup cx d8_46 rfl 47 rfl ?_
    refine Ok.getfield cx (own_w hw 30 rfl) d8_47 F_count 50 rfl ?_
    refine Ok.iconst cx d8_50 51 rfl (1 : Int32) rfl ?_
    refine Ok.isub cx d8_51 52 rfl fun t51 e51 => ?_
    have s51 := own_sub e51 (by omega) (by omega)
    refine Ok.putfield cx (own_w hw 30 rfl) d8_52 F_count E_q (Or.inl (own_w hw 31 rfl)) (own_w hw 1 rfl) (ty := .int) (by decide) rfl rfl (by first | assumption | omega) 55 rfl fun h52_ W52 G52 => ?_
    have Z0 := Nat.le_trans Z0 (Nat.le_of_eq W52.size.symm)
    have E_q := E_q.wr W52
    have F_ring := F_ring.other W52 (Or.inr (slot_ne (a0 := a0) (Or.inr (own_w hw 15 rfl)) (Or.inl (own_w hw 31 rfl)) (by decide) (t := (.array .int)) (t' := .int) (by decide) (by decide)))
    have F_waiting := F_waiting.other W52 (Or.inr (slot_ne (a0 := a0) (Or.inr (own_w hw 18 rfl)) (Or.inl (own_w hw 31 rfl)) (by decide) (t := (.array .boolean)) (t' := .int) (by decide) (by decide)))
    have F_head := F_head.other W52 (Or.inr (slot_ne (a0 := a0) (Or.inl (own_w hw 29 rfl)) (Or.inl (own_w hw 31 rfl)) (by decide) (t := .int) (t' := .int) (by decide) (by decide)))
    have A_r := A_r.other W52 (by first | assumption | (apply Ne.symm; assumption))
    have A_w := A_w.other W52 (by first | assumption | (apply Ne.symm; assumption))
    have K_h := K_h.wr W52 (Or.inl (List.mem_of_getElem? (i := 0) rfl))
    have F_count := G52
    refine Ok.iloadN cx d8_55 rfl 56 rfl ?_
    exact Ok.ireturn cx d8_56 (by decide) (by decide) ⟨Z0, K_h, y, rfl, hyv, VQ.polled (H' := (H + 1) % N) E_q F_ring F_waiting F_head F_count A_r A_w l1 l2 (by have := own_mod1 hH; omega) (by omega) hH hnd hbd hrg hwt rfl⟩
  · skip
    refine Ok.aloadN cx d8_32 rfl 33 rfl ?_
    refine Ok.getfield cx (own_w hw 28 rfl) d8_33 F_head 36 rfl ?_
    refine Ok.iconst cx d8_36 37 rfl (1 : Int32) rfl ?_
    refine Ok.iadd cx d8_37 38 rfl fun t37 e37 => ?_
    have s37 := own_add e37 (by omega) (by omega)
    refine Ok.goto cx d8_38 42 (by decide) ?_
    refine Ok.putfield cx (own_w hw 28 rfl) d8_42 F_head E_q (Or.inl (own_w hw 29 rfl)) (own_w hw 1 rfl) (ty := .int) (by decide) rfl rfl (by first | assumption | omega) 45 rfl fun h42_ W42 G42 => ?_
    have Z0 := Nat.le_trans Z0 (Nat.le_of_eq W42.size.symm)
    have E_q := E_q.wr W42
    have F_ring := F_ring.other W42 (Or.inr (slot_ne (a0 := a0) (Or.inr (own_w hw 15 rfl)) (Or.inl (own_w hw 29 rfl)) (by decide) (t := (.array .int)) (t' := .int) (by decide) (by decide)))
    have F_waiting := F_waiting.other W42 (Or.inr (slot_ne (a0 := a0) (Or.inr (own_w hw 18 rfl)) (Or.inl (own_w hw 29 rfl)) (by decide) (t := (.array .boolean)) (t' := .int) (by decide) (by decide)))
    have F_count := F_count.other W42 (Or.inr (slot_ne (a0 := a0) (Or.inl (own_w hw 31 rfl)) (Or.inl (own_w hw 29 rfl)) (by decide) (t := .int) (t' := .int) (by decide) (by decide)))
    have A_r := A_r.other W42 (by first | assumption | (apply Ne.symm; assumption))
    have A_w := A_w.other W42 (by first | assumption | (apply Ne.symm; assumption))
    have K_h := K_h.wr W42 (Or.inl (List.mem_of_getElem? (i := 0) rfl))
    have F_head := G42
    refine Ok.aloadN cx d8_45 rfl 46 rfl ?_
    refine Ok.dup cx d8_46 rfl 47 rfl ?_
    refine Ok.getfield cx (own_w hw 30 rfl) d8_47 F_count 50 rfl ?_
    refine Ok.iconst cx d8_50 51 rfl (1 : Int32) rfl ?_
    refine Ok.isub cx d8_51 52 rfl fun t51 e51 => ?_
    have s51 := own_sub e51 (by omega) (by omega)
    refine Ok.putfield cx (own_w hw 30 rfl) d8_52 F_count E_q (Or.inl (own_w hw 31 rfl)) (own_w hw 1 rfl) (ty := .int) (by decide) rfl rfl (by first | assumption | omega) 55 rfl fun h52_ W52 G52 => ?_
    have Z0 := Nat.le_trans Z0 (Nat.le_of_eq W52.size.symm)
    have E_q := E_q.wr W52
    have F_ring := F_ring.other W52 (Or.inr (slot_ne (a0 := a0) (Or.inr (own_w hw 15 rfl)) (Or.inl (own_w hw 31 rfl)) (by decide) (t := (.array .int)) (t' := .int) (by decide) (by decide)))
    have F_waiting := F_waiting.other W52 (Or.inr (slot_ne (a0 := a0) (Or.inr (own_w hw 18 rfl)) (Or.inl (own_w hw 31 rfl)) (by decide) (t := (.array .boolean)) (t' := .int) (by decide) (by decide)))
    have F_head := F_head.other W52 (Or.inr (slot_ne (a0 := a0) (Or.inl (own_w hw 29 rfl)) (Or.inl (own_w hw 31 rfl)) (by decide) (t := .int) (t' := .int) (by decide) (by decide)))
    have A_r := A_r.other W52 (by first | assumption | (apply Ne.symm; assumption))
    have A_w := A_w.other W52 (by first | assumption | (apply Ne.symm; assumption))
    have K_h := K_h.wr W52 (Or.inl (List.mem_of_getElem? (i := 0) rfl))
    have F_count := G52
    refine Ok.iloadN cx d8_55 rfl 56 rfl ?_
    exact Ok.ireturn cx d8_56 (by decide) (by decide) ⟨Z0, K_h, y, rfl, hyv, VQ.polled (H' := (H + 1) % N) E_q F_ring F_waiting F_head F_count A_r A_w l1 l2 (by have := own_mod1 hH; omega) (by omega) hH hnd hbd hrg hwt rfl⟩
theorem d10_0 : decode prog_77_method_3_code 0 = .ok (.aload_n 0, 1) := by decide +kernel
theorem d10_1 : decode prog_77_method_3_code 1 = .ok (.getfield 27, 3) := by decide +kernel
theorem d10_4 : decode prog_77_method_3_code 4 = .ok (.ifCond .ne 7, 3) := by decide +kernel
theorem d10_7 : decode prog_77_method_3_code 7 = .ok (.iconst 1, 1) := by decide +kernel
theorem d10_8 : decode prog_77_method_3_code 8 = .ok (.goto 4, 3) := by decide +kernel
theorem d10_11 : decode prog_77_method_3_code 11 = .ok (.iconst 0, 1) := by decide +kernel
theorem d10_12 : decode prog_77_method_3_code 12 = .ok (.ireturn, 1) := by decide +kernel
theorem pn_10 : plainFor (⟨"com/example/leeway/leeway/solver/VariableQueue", "isEmpty", "()Z"⟩ : MethodName) = true := by first | exact plainFor_of_name (by first | (simp [plainName, overriddenIn]; done) | decide +kernel) | decide +kernel
set_option maxRecDepth 65536 in
set_option maxHeartbeats 40000000 in
theorem rm_10 (l : Launch) (Z : State) (a0 : Array Value) (hw : ∀ d ∈ tables_1, d.before a0 Z = true) (q r w : Addr) (N : Nat) (L : List Nat) (h : Heap) (n0 : Nat) (Z0 : n0 ≤ h.size) (G : VQ Z h q r w N L) :
    Does l Z (⟨"com/example/leeway/leeway/solver/VariableQueue", "isEmpty", "()Z"⟩ : MethodName) prog_77_method_3_code 1 (some .boolean) ({ frames := 0, cells := 0, slots := 0, locals := 0 } : Room) #[(.ref q)] h n0 (fun v' h' => h = h' ∧ ∃ x : Int32, v' = some (.int x) ∧ (x.toInt = 1 ∧ L.length = 0 ∨ x.toInt = 0 ∧ L.length ≠ 0)) := by
  refine Does.of_body pn_10 [.val (.ref q)] (fun m => by first | (simp [entryFrame, mkF, argsToLocals, Value.category]; done) | rfl) ?_
  intro W hWl cx
  subst hWl
  have cx : Cx W Z "com/example/leeway/leeway/solver/VariableQueue" "isEmpty" prog_77_method_3_code 1 (some .boolean) := cx
  have lz1 : ((1 : Int32) &&& 1).toInt = 1 := rfl
  have lz0 : ((0 : Int32) &&& 1).toInt = 0 := rfl
  have l32_1 : (1 : Int32).toInt = 1 := rfl
  have l32_0 : (0 : Int32).toInt = 0 := rfl
  obtain ⟨ring, wt, hd, ct, H, E_q, F_ring, F_waiting, F_head, F_count, A_r, A_w, l1, l2, eH, eC, hH, hnd, hbd, hrg, hwt⟩ := G
  refine Ok.aloadN cx d10_0 rfl 1 rfl ?_
  refine Ok.getfield cx (own_w hw 30 rfl) d10_1 F_count 4 rfl ?_
  refine Ok.if_ne cx d10_4 11 7 (by decide) rfl (fun c4 => ?_) (fun c4 => ?_)
  · skip
    refine Ok.iconst cx d10_11 12 rfl (0 : Int32) rfl ?_
    exact Ok.zreturn cx d10_12 (by decide) (by decide) ⟨rfl, _, rfl, by omega⟩
  · skip
    refine Ok.iconst cx d10_7 8 rfl (1 : Int32) rfl ?_
    refine Ok.goto cx d10_8 12 (by decide) ?_
    exact Ok.zreturn cx d10_12 (by decide) (by decide) ⟨rfl, _, rfl, by omega⟩
theorem d7_0 : decode method_4_code 0 = .ok (.aload_n 0, 1) := by decide +kernel
theorem d7_1 : decode method_4_code 1 = .ok (.iconst 3, 1) := by decide +kernel
theorem d7_2 : decode method_4_code 2 = .ok (.iaload, 1) := by decide +kernel
theorem d7_3 : decode method_4_code 3 = .ok (.ifCond .le 10, 3) := by decide +kernel
theorem d7_6 : decode method_4_code 6 = .ok (.aload_n 0, 1) := by decide +kernel
theorem d7_7 : decode method_4_code 7 = .ok (.iconst 0, 1) := by decide +kernel
theorem d7_8 : decode method_4_code 8 = .ok (.iaload, 1) := by decide +kernel
theorem d7_9 : decode method_4_code 9 = .ok (.iload_n 1, 1) := by decide +kernel
theorem d7_10 : decode method_4_code 10 = .ok (.if_icmp .eq 31, 3) := by decide +kernel
theorem d7_13 : decode method_4_code 13 = .ok (.aload_n 0, 1) := by decide +kernel
theorem d7_14 : decode method_4_code 14 = .ok (.iconst 3, 1) := by decide +kernel
theorem d7_15 : decode method_4_code 15 = .ok (.iaload, 1) := by decide +kernel
theorem d7_16 : decode method_4_code 16 = .ok (.iconst 1, 1) := by decide +kernel
theorem d7_17 : decode method_4_code 17 = .ok (.if_icmp .le 10, 3) := by decide +kernel
theorem d7_20 : decode method_4_code 20 = .ok (.aload_n 0, 1) := by decide +kernel
theorem d7_21 : decode method_4_code 21 = .ok (.iconst 1, 1) := by decide +kernel
theorem d7_22 : decode method_4_code 22 = .ok (.iaload, 1) := by decide +kernel
theorem d7_23 : decode method_4_code 23 = .ok (.iload_n 1, 1) := by decide +kernel
theorem d7_24 : decode method_4_code 24 = .ok (.if_icmp .eq 17, 3) := by decide +kernel
theorem d7_27 : decode method_4_code 27 = .ok (.aload_n 0, 1) := by decide +kernel
theorem d7_28 : decode method_4_code 28 = .ok (.iconst 3, 1) := by decide +kernel
theorem d7_29 : decode method_4_code 29 = .ok (.iaload, 1) := by decide +kernel
theorem d7_30 : decode method_4_code 30 = .ok (.iconst 2, 1) := by decide +kernel
theorem d7_31 : decode method_4_code 31 = .ok (.if_icmp .le 14, 3) := by decide +kernel
theorem d7_34 : decode method_4_code 34 = .ok (.aload_n 0, 1) := by decide +kernel
theorem d7_35 : decode method_4_code 35 = .ok (.iconst 2, 1) := by decide +kernel
theorem d7_36 : decode method_4_code 36 = .ok (.iaload, 1) := by decide +kernel
theorem d7_37 : decode method_4_code 37 = .ok (.iload_n 1, 1) := by decide +kernel
theorem d7_38 : decode method_4_code 38 = .ok (.if_icmp .ne 7, 3) := by decide +kernel
theorem d7_41 : decode method_4_code 41 = .ok (.iconst 1, 1) := by decide +kernel
theorem d7_42 : decode method_4_code 42 = .ok (.goto 4, 3) := by decide +kernel
theorem d7_45 : decode method_4_code 45 = .ok (.iconst 0, 1) := by decide +kernel
theorem d7_46 : decode method_4_code 46 = .ok (.ireturn, 1) := by decide +kernel
theorem pn_7 : plainFor (⟨"com/example/leeway/leeway/solver/VariableQueuePollPinLaw", "contains", "([II)Z"⟩ : MethodName) = true := by first | exact plainFor_of_name (by first | (simp [plainName, overriddenIn]; done) | decide +kernel) | decide +kernel
set_option maxRecDepth 65536 in
set_option maxHeartbeats 40000000 in
theorem rm_7 (l : Launch) (Z : State) (a0 : Array Value) (hw : ∀ d ∈ tables_1, d.before a0 Z = true) (m : Addr) (p m0 m1 m2 m3 : Int32) (h : Heap) (n0 : Nat) (Z0 : n0 ≤ h.size) (A_m : AI Z h m .int [.int m0, .int m1, .int m2, .int m3]) :
    Does l Z (⟨"com/example/leeway/leeway/solver/VariableQueuePollPinLaw", "contains", "([II)Z"⟩ : MethodName) method_4_code 2 (some .boolean) ({ frames := 0, cells := 0, slots := 0, locals := 0 } : Room) #[(.ref m), (.int p)] h n0 (fun v' h' => h = h' ∧ ∃ x : Int32, v' = some (.int x) ∧ (x.toInt = 1 ∧ (0 < m3.toInt ∧ m0.toInt = p.toInt ∨ 1 < m3.toInt ∧ m1.toInt = p.toInt ∨ 2 < m3.toInt ∧ m2.toInt = p.toInt) ∨ x.toInt = 0 ∧ ¬ (0 < m3.toInt ∧ m0.toInt = p.toInt ∨ 1 < m3.toInt ∧ m1.toInt = p.toInt ∨ 2 < m3.toInt ∧ m2.toInt = p.toInt))) := by
  refine Does.of_body pn_7 [.val (.ref m), .val (.int p)] (fun m => by first | (simp [entryFrame, mkF, argsToLocals, Value.category]; done) | rfl) ?_
  intro W hWl cx
  subst hWl
  have cx : Cx W Z "com/example/leeway/leeway/solver/VariableQueuePollPinLaw" "contains" method_4_code 2 (some .boolean) := cx
  have lz1 : ((1 : Int32) &&& 1).toInt = 1 := rfl
  have lz0 : ((0 : Int32) &&& 1).toInt = 0 := rfl
  have l32_3 : (3 : Int32).toInt = 3 := rfl
  have l32_0 : (0 : Int32).toInt = 0 := rfl
  have l32_1 : (1 : Int32).toInt = 1 := rfl
  have l32_2 : (2 : Int32).toInt = 2 := rfl
  refine Ok.aloadN cx d7_0 rfl 1 rfl ?_
  refine Ok.iconst cx d7_1 2 rfl (3 : Int32) rfl ?_
  refine Ok.iaload cx d7_2 A_m (3) rfl (v := (.int m3)) rfl 3 rfl ?_
  refine Ok.if_le cx d7_3 13 6 (by decide) rfl (fun c3 => ?_) (fun c3 => ?_)
  · skip
    refine Ok.aloadN cx d7_13 rfl 14 rfl ?_
    refine Ok.iconst cx d7_14 15 rfl (3 : Int32) rfl ?_
    refine Ok.iaload cx d7_15 A_m (3) rfl (v := (.int m3)) rfl 16 rfl ?_
    refine Ok.iconst cx d7_16 17 rfl (1 : Int32) rfl ?_
    refine Ok.icmp_le cx d7_17 27 20 (by decide) rfl (fun c17 => ?_) (fun c17 => ?_)
    · skip
      refine Ok.aloadN cx d7_27 rfl 28 rfl ?_
      refine Ok.iconst cx d7_28 29 rfl (3 : Int32) rfl ?_
      refine Ok.iaload cx d7_29 A_m (3) rfl (v := (.int m3)) rfl 30 rfl ?_
      refine Ok.iconst cx d7_30 31 rfl (2 : Int32) rfl ?_
      refine Ok.icmp_le cx d7_31 45 34 (by decide) rfl (fun c31 => ?_) (fun c31 => ?_)
      · skip
        refine Ok.iconst cx d7_45 46 rfl (0 : Int32) rfl ?_
        exact Ok.zreturn cx d7_46 (by decide) (by decide) ⟨rfl, _, rfl, by omega⟩
      · skip
        refine Ok.aloadN cx d7_34 rfl 35 rfl ?_
        refine Ok.iconst cx d7_35 36 rfl (2 : Int32) rfl ?_
        refine Ok.iaload cx d7_36 A_m (2) rfl (v := (.int m2)) rfl 37 rfl ?_
        refine Ok.iloadN cx d7_37 rfl 38 rfl ?_
        refine Ok.icmp_ne cx d7_38 45 41 (by decide) rfl (fun c38 => ?_) (fun c38 => ?_)
        · skip
          refine Ok.iconst cx d7_45 46 rfl (0 : Int32) rfl ?_
          exact Ok.zreturn cx d7_46 (by decide) (by decide) ⟨rfl, _, rfl, by omega⟩
        · skip
          refine Ok.iconst cx d7_41 42 rfl (1 : Int32) rfl ?_
          refine Ok.goto cx d7_42 46 (by decide) ?_
          exact Ok.zreturn cx d7_46 (by decide) (by decide) ⟨rfl, _, rfl, by omega⟩
    · skip
      refine Ok.aloadN cx d7_20 rfl 21 rfl ?_
      refine Ok.iconst cx d7_21 22 rfl (1 : Int32) rfl ?_
      refine Ok.iaload cx d7_22 A_m (1) rfl (v := (.int m1)) rfl 23 rfl ?_
      refine Ok.iloadN cx d7_23 rfl 24 rfl ?_
      refine Ok.icmp_eq cx d7_24 41 27 (by decide) rfl (fun c24 => ?_) (fun c24 => ?_)
      · skip
        refine Ok.iconst cx d7_41 42 rfl (1 : Int32) rfl ?_
        refine Ok.goto cx d7_42 46 (by decide) ?_
        exact Ok.zreturn cx d7_46 (by decide) (by decide) ⟨rfl, _, rfl, by omega⟩
      · skip
        refine Ok.aloadN cx d7_27 rfl 28 rfl ?_
        refine Ok.iconst cx d7_28 29 rfl (3 : Int32) rfl ?_
        refine Ok.iaload cx d7_29 A_m (3) rfl (v := (.int m3)) rfl 30 rfl ?_
        refine Ok.iconst cx d7_30 31 rfl (2 : Int32) rfl ?_
        refine Ok.icmp_le cx d7_31 45 34 (by decide) rfl (fun c31 => ?_) (fun c31 => ?_)
        · skip
          refine Ok.iconst cx d7_45 46 rfl (0 : Int32) rfl ?_
          exact Ok.zreturn cx d7_46 (by decide) (by decide) ⟨rfl, _, rfl, by omega⟩
        · skip
          refine Ok.aloadN cx d7_34 rfl 35 rfl ?_
          refine Ok.iconst cx d7_35 36 rfl (2 : Int32) rfl ?_
          refine Ok.iaload cx d7_36 A_m (2) rfl (v := (.int m2)) rfl 37 rfl ?_
          refine Ok.iloadN cx d7_37 rfl 38 rfl ?_
          refine Ok.icmp_ne cx d7_38 45 41 (by decide) rfl (fun c38 => ?_) (fun c38 => ?_)
          · skip
            refine Ok.iconst cx d7_45 46 rfl (0 : Int32) rfl ?_
            exact Ok.zreturn cx d7_46 (by decide) (by decide) ⟨rfl, _, rfl, by omega⟩
          · skip
            refine Ok.iconst cx d7_41 42 rfl (1 : Int32) rfl ?_
            refine Ok.goto cx d7_42 46 (by decide) ?_
            exact Ok.zreturn cx d7_46 (by decide) (by decide) ⟨rfl, _, rfl, by omega⟩
  · skip
    refine Ok.aloadN cx d7_6 rfl 7 rfl ?_
    refine Ok.iconst cx d7_7 8 rfl (0 : Int32) rfl ?_
    refine Ok.iaload cx d7_8 A_m (0) rfl (v := (.int m0)) rfl 9 rfl ?_
    refine Ok.iloadN cx d7_9 rfl 10 rfl ?_
    refine Ok.icmp_eq cx d7_10 41 13 (by decide) rfl (fun c10 => ?_) (fun c10 => ?_)
    · skip
      refine Ok.iconst cx d7_41 42 rfl (1 : Int32) rfl ?_
      refine Ok.goto cx d7_42 46 (by decide) ?_
      exact Ok.zreturn cx d7_46 (by decide) (by decide) ⟨rfl, _, rfl, by omega⟩
    · skip
      refine Ok.aloadN cx d7_13 rfl 14 rfl ?_
      refine Ok.iconst cx d7_14 15 rfl (3 : Int32) rfl ?_
      refine Ok.iaload cx d7_15 A_m (3) rfl (v := (.int m3)) rfl 16 rfl ?_
      refine Ok.iconst cx d7_16 17 rfl (1 : Int32) rfl ?_
      refine Ok.icmp_le cx d7_17 27 20 (by decide) rfl (fun c17 => ?_) (fun c17 => ?_)
      · skip
        refine Ok.aloadN cx d7_27 rfl 28 rfl ?_
        refine Ok.iconst cx d7_28 29 rfl (3 : Int32) rfl ?_
        refine Ok.iaload cx d7_29 A_m (3) rfl (v := (.int m3)) rfl 30 rfl ?_
        refine Ok.iconst cx d7_30 31 rfl (2 : Int32) rfl ?_
        refine Ok.icmp_le cx d7_31 45 34 (by decide) rfl (fun c31 => ?_) (fun c31 => ?_)
        · skip
          refine Ok.iconst cx d7_45 46 rfl (0 : Int32) rfl ?_
          exact Ok.zreturn cx d7_46 (by decide) (by decide) ⟨rfl, _, rfl, by omega⟩
        · skip
          refine Ok.aloadN cx d7_34 rfl 35 rfl ?_
          refine Ok.iconst cx d7_35 36 rfl (2 : Int32) rfl ?_
          refine Ok.iaload cx d7_36 A_m (2) rfl (v := (.int m2)) rfl 37 rfl ?_
          refine Ok.iloadN cx d7_37 rfl 38 rfl ?_
          refine Ok.icmp_ne cx d7_38 45 41 (by decide) rfl (fun c38 => ?_) (fun c38 => ?_)
          · skip
            refine Ok.iconst cx d7_45 46 rfl (0 : Int32) rfl ?_
            exact Ok.zreturn cx d7_46 (by decide) (by decide) ⟨rfl, _, rfl, by omega⟩
          · skip
            refine Ok.iconst cx d7_41 42 rfl (1 : Int32) rfl ?_
            refine Ok.goto cx d7_42 46 (by decide) ?_
            exact Ok.zreturn cx d7_46 (by decide) (by decide) ⟨rfl, _, rfl, by omega⟩
      · skip
        refine Ok.aloadN cx d7_20 rfl 21 rfl ?_
        refine Ok.iconst cx d7_21 22 rfl (1 : Int32) rfl ?_
        refine Ok.iaload cx d7_22 A_m (1) rfl (v := (.int m1)) rfl 23 rfl ?_
        refine Ok.iloadN cx d7_23 rfl 24 rfl ?_
        refine Ok.icmp_eq cx d7_24 41 27 (by decide) rfl (fun c24 => ?_) (fun c24 => ?_)
        · skip
          refine Ok.iconst cx d7_41 42 rfl (1 : Int32) rfl ?_
          refine Ok.goto cx d7_42 46 (by decide) ?_
          exact Ok.zreturn cx d7_46 (by decide) (by decide) ⟨rfl, _, rfl, by omega⟩
        · skip
          refine Ok.aloadN cx d7_27 rfl 28 rfl ?_
          refine Ok.iconst cx d7_28 29 rfl (3 : Int32) rfl ?_
          refine Ok.iaload cx d7_29 A_m (3) rfl (v := (.int m3)) rfl 30 rfl ?_
          refine Ok.iconst cx d7_30 31 rfl (2 : Int32) rfl ?_
          refine Ok.icmp_le cx d7_31 45 34 (by decide) rfl (fun c31 => ?_) (fun c31 => ?_)
          · skip
            refine Ok.iconst cx d7_45 46 rfl (0 : Int32) rfl ?_
            exact Ok.zreturn cx d7_46 (by decide) (by decide) ⟨rfl, _, rfl, by omega⟩
          · skip
            refine Ok.aloadN cx d7_34 rfl 35 rfl ?_
            refine Ok.iconst cx d7_35 36 rfl (2 : Int32) rfl ?_
            refine Ok.iaload cx d7_36 A_m (2) rfl (v := (.int m2)) rfl 37 rfl ?_
            refine Ok.iloadN cx d7_37 rfl 38 rfl ?_
            refine Ok.icmp_ne cx d7_38 45 41 (by decide) rfl (fun c38 => ?_) (fun c38 => ?_)
            · skip
              refine Ok.iconst cx d7_45 46 rfl (0 : Int32) rfl ?_
              exact Ok.zreturn cx d7_46 (by decide) (by decide) ⟨rfl, _, rfl, by omega⟩
            · skip
              refine Ok.iconst cx d7_41 42 rfl (1 : Int32) rfl ?_
              refine Ok.goto cx d7_42 46 (by decide) ?_
              exact Ok.zreturn cx d7_46 (by decide) (by decide) ⟨rfl, _, rfl, by omega⟩
theorem d6_0 : decode method_5_code 0 = .ok (.aload_n 0, 1) := by decide +kernel
theorem d6_1 : decode method_5_code 1 = .ok (.iload_n 1, 1) := by decide +kernel
theorem d6_2 : decode method_5_code 2 = .ok (.invokestatic 38, 3) := by decide +kernel
theorem d6_5 : decode method_5_code 5 = .ok (.ifCond .eq 5, 3) := by decide +kernel
theorem d6_8 : decode method_5_code 8 = .ok (.iconst 0, 1) := by decide +kernel
theorem d6_9 : decode method_5_code 9 = .ok (.ireturn, 1) := by decide +kernel
theorem d6_10 : decode method_5_code 10 = .ok (.aload_n 0, 1) := by decide +kernel
theorem d6_11 : decode method_5_code 11 = .ok (.aload_n 0, 1) := by decide +kernel
theorem d6_12 : decode method_5_code 12 = .ok (.iconst 3, 1) := by decide +kernel
theorem d6_13 : decode method_5_code 13 = .ok (.iaload, 1) := by decide +kernel
theorem d6_14 : decode method_5_code 14 = .ok (.iload_n 1, 1) := by decide +kernel
theorem d6_15 : decode method_5_code 15 = .ok (.iastore, 1) := by decide +kernel
theorem d6_16 : decode method_5_code 16 = .ok (.aload_n 0, 1) := by decide +kernel
theorem d6_17 : decode method_5_code 17 = .ok (.iconst 3, 1) := by decide +kernel
theorem d6_18 : decode method_5_code 18 = .ok (.aload_n 0, 1) := by decide +kernel
theorem d6_19 : decode method_5_code 19 = .ok (.iconst 3, 1) := by decide +kernel
theorem d6_20 : decode method_5_code 20 = .ok (.iaload, 1) := by decide +kernel
theorem d6_21 : decode method_5_code 21 = .ok (.iconst 1, 1) := by decide +kernel
theorem d6_22 : decode method_5_code 22 = .ok (.iadd, 1) := by decide +kernel
theorem d6_23 : decode method_5_code 23 = .ok (.iastore, 1) := by decide +kernel
theorem d6_24 : decode method_5_code 24 = .ok (.iconst 1, 1) := by decide +kernel
theorem d6_25 : decode method_5_code 25 = .ok (.ireturn, 1) := by decide +kernel
theorem pn_6 : plainFor (⟨"com/example/leeway/leeway/solver/VariableQueuePollPinLaw", "mAdd", "([II)Z"⟩ : MethodName) = true := by first | exact plainFor_of_name (by first | (simp [plainName, overriddenIn]; done) | decide +kernel) | decide +kernel
theorem pd_1 : parseMethodDescriptor "([II)Z" = some ⟨[(.array .int), .int], some .boolean⟩ := by decide +kernel
set_option maxRecDepth 65536 in
set_option maxHeartbeats 40000000 in
theorem rm_6 (l : Launch) (Z : State) (a0 : Array Value) (hw : ∀ d ∈ tables_1, d.before a0 Z = true) (m : Addr) (p m0 m1 m2 m3 : Int32) (L : List Nat) (v : Nat) (h : Heap) (n0 : Nat) (Z0 : n0 ≤ h.size) (A_m : AI Z h m .int [.int m0, .int m1, .int m2, .int m3]) (zm : n0 ≤ m) (hR : own_R L m0 m1 m2 m3) (hp : p.toInt = v) (hlen : v ∉ L → L.length < 3) :
    Does l Z (⟨"com/example/leeway/leeway/solver/VariableQueuePollPinLaw", "mAdd", "([II)Z"⟩ : MethodName) method_5_code 2 (some .boolean) ({ frames := 1, cells := 0, slots := 0, locals := 13 } : Room) #[(.ref m), (.int p)] h n0 (fun v' h' => n0 ≤ h'.size ∧ Keep h h' [m] ∧ ∃ x : Int32, v' = some (.int x) ∧ (v ∈ L ∧ x.toInt = 0 ∧ (∃ m0 m1 m2 m3 : Int32, AI Z h' m .int [.int m0, .int m1, .int m2, .int m3] ∧ own_R L m0 m1 m2 m3) ∨ v ∉ L ∧ x.toInt = 1 ∧ ∃ m0 m1 m2 m3 : Int32, AI Z h' m .int [.int m0, .int m1, .int m2, .int m3] ∧ own_R (L ++ [v]) m0 m1 m2 m3)) := by
  refine Does.of_body pn_6 [.val (.ref m), .val (.int p)] (fun m => by first | (simp [entryFrame, mkF, argsToLocals, Value.category]; done) | rfl) ?_
  intro W hWl cx
  subst hWl
  have cx : Cx W Z "com/example/leeway/leeway/solver/VariableQueuePollPinLaw" "mAdd" method_5_code 2 (some .boolean) := cx
  have lz1 : ((1 : Int32) &&& 1).toInt = 1 := rfl
  have lz0 : ((0 : Int32) &&& 1).toInt = 0 := rfl
  have l32_0 : (0 : Int32).toInt = 0 := rfl
  have l32_3 : (3 : Int32).toInt = 3 := rfl
  have l32_1 : (1 : Int32).toInt = 1 := rfl
  have K_h := Keep.refl h [m]
  refine Ok.aloadN cx d6_0 rfl 1 rfl ?_
  refine Ok.iloadN cx d6_1 rfl 2 rfl ?_
  refine Ok.callStatic cx [(.ref m), (.int p)] [] rfl (own_w hw 35 rfl) (own_w hw 36 rfl) (own_w hw 21 rfl) (own_w hw 37 rfl) d6_2 (by decide) pd_1 rfl rfl  (rm_7 W.l Z a0 hw m p m0 m1 m2 m3 h n0 Z0 A_m) (by decide) 0 rfl (by decide) (by decide) (by decide) 5 rfl fun v2 h2_ q2 => ?_
  obtain ⟨rfl, r2, rfl, x2⟩ := q2
  have hh := own_has hR hp
  show Ok _ _ _ _ _ _ _ _ _ [(.int r2)]
  refine Ok.if_eq cx d6_5 10 8 (by decide) rfl (fun c5 => ?_) (fun c5 => ?_)
  · skip
    have hvL : v ∉ L := fun z => by have := hh.mpr z; omega
    have hl3 := hlen hvL
    obtain ⟨h3, hl, h0, h1, h2⟩ := hR
    rcases own_lists hl with rfl | ⟨a, rfl⟩ | ⟨a, b, rfl⟩ | ⟨a, b, d, rfl⟩
    · skip
      simp only [List.length_nil] at h3
      refine Ok.aloadN cx d6_10 rfl 11 rfl ?_
      refine Ok.aloadN cx d6_11 rfl 12 rfl ?_
      refine Ok.iconst cx d6_12 13 rfl (3 : Int32) rfl ?_
      refine Ok.iaload cx d6_13 A_m (3) rfl (v := (.int m3)) rfl 14 rfl ?_
      refine Ok.iloadN cx d6_14 rfl 15 rfl ?_
      refine Ok.iastore cx d6_15 A_m (0) (by omega) (by simp) (by first | assumption | omega) 16 rfl fun h15_ W15 G15 => ?_
      have Z0 := Nat.le_trans Z0 (Nat.le_of_eq W15.size.symm)
      have K_h := K_h.wr W15 (Or.inl (List.mem_of_getElem? (i := 0) rfl))
      have A_m := G15
      have A_m : AI Z h15_ m .int [.int p, .int m1, .int m2, .int m3] := A_m
      refine Ok.aloadN cx d6_16 rfl 17 rfl ?_
      refine Ok.iconst cx d6_17 18 rfl (3 : Int32) rfl ?_
      refine Ok.aloadN cx d6_18 rfl 19 rfl ?_
      refine Ok.iconst cx d6_19 20 rfl (3 : Int32) rfl ?_
      refine Ok.iaload cx d6_20 A_m (3) rfl (v := (.int m3)) rfl 21 rfl ?_
      refine Ok.iconst cx d6_21 22 rfl (1 : Int32) rfl ?_
      refine Ok.iadd cx d6_22 23 rfl fun t22 e22 => ?_
      have s22 := own_add e22 (by omega) (by omega)
      refine Ok.iastore cx d6_23 A_m (3) rfl (by simp) (by first | assumption | omega) 24 rfl fun h23_ W23 G23 => ?_
      have Z0 := Nat.le_trans Z0 (Nat.le_of_eq W23.size.symm)
      have K_h := K_h.wr W23 (Or.inl (List.mem_of_getElem? (i := 0) rfl))
      have A_m := G23
      have A_m : AI Z h23_ m .int [.int p, .int m1, .int m2, .int t22] := A_m
      refine Ok.iconst cx d6_24 25 rfl (1 : Int32) rfl ?_
      exact Ok.zreturn cx d6_25 (by decide) (by decide) ⟨Z0, K_h, _, rfl, Or.inr ⟨hvL, rfl, _, _, _, _, A_m, ⟨by simp; omega, by simp, (fun u hu => by simp at hu; omega), (fun u hu => by simp at hu), (fun u hu => by simp at hu)⟩⟩⟩
    · skip
      simp only [List.length_cons, List.length_nil] at h3
      refine Ok.aloadN cx d6_10 rfl 11 rfl ?_
      refine Ok.aloadN cx d6_11 rfl 12 rfl ?_
      refine Ok.iconst cx d6_12 13 rfl (3 : Int32) rfl ?_
      refine Ok.iaload cx d6_13 A_m (3) rfl (v := (.int m3)) rfl 14 rfl ?_
      refine Ok.iloadN cx d6_14 rfl 15 rfl ?_
      refine Ok.iastore cx d6_15 A_m (1) (by omega) (by simp) (by first | assumption | omega) 16 rfl fun h15_ W15 G15 => ?_
      have Z0 := Nat.le_trans Z0 (Nat.le_of_eq W15.size.symm)
      have K_h := K_h.wr W15 (Or.inl (List.mem_of_getElem? (i := 0) rfl))
      have A_m := G15
      have A_m : AI Z h15_ m .int [.int m0, .int p, .int m2, .int m3] := A_m
      refine Ok.aloadN cx d6_16 rfl 17 rfl ?_
      refine Ok.iconst cx d6_17 18 rfl (3 : Int32) rfl ?_
      refine Ok.aloadN cx d6_18 rfl 19 rfl ?_
      refine Ok.iconst cx d6_19 20 rfl (3 : Int32) rfl ?_
      refine Ok.iaload cx d6_20 A_m (3) rfl (v := (.int m3)) rfl 21 rfl ?_
      refine Ok.iconst cx d6_21 22 rfl (1 : Int32) rfl ?_
      refine Ok.iadd cx d6_22 23 rfl fun t22 e22 => ?_
      have s22 := own_add e22 (by omega) (by omega)
      refine Ok.iastore cx d6_23 A_m (3) rfl (by simp) (by first | assumption | omega) 24 rfl fun h23_ W23 G23 => ?_
      have Z0 := Nat.le_trans Z0 (Nat.le_of_eq W23.size.symm)
      have K_h := K_h.wr W23 (Or.inl (List.mem_of_getElem? (i := 0) rfl))
      have A_m := G23
      have A_m : AI Z h23_ m .int [.int m0, .int p, .int m2, .int t22] := A_m
      refine Ok.iconst cx d6_24 25 rfl (1 : Int32) rfl ?_
      exact Ok.zreturn cx d6_25 (by decide) (by decide) ⟨Z0, K_h, _, rfl, Or.inr ⟨hvL, rfl, _, _, _, _, A_m, ⟨by simp; omega, by simp, (fun u hu => by have := h0 a rfl; simp at hu; omega), (fun u hu => by simp at hu; omega), (fun u hu => by simp at hu)⟩⟩⟩
    · skip
      simp only [List.length_cons, List.length_nil] at h3
      refine Ok.aloadN cx d6_10 rfl 11 rfl ?_
      refine Ok.aloadN cx d6_11 rfl 12 rfl ?_
      refine Ok.iconst cx d6_12 13 rfl (3 : Int32) rfl ?_
      refine Ok.iaload cx d6_13 A_m (3) rfl (v := (.int m3)) rfl 14 rfl ?_
      refine Ok.iloadN cx d6_14 rfl 15 rfl ?_
      refine Ok.iastore cx d6_15 A_m (2) (by omega) (by simp) (by first | assumption | omega) 16 rfl fun h15_ W15 G15 => ?_
      have Z0 := Nat.le_trans Z0 (Nat.le_of_eq W15.size.symm)
      have K_h := K_h.wr W15 (Or.inl (List.mem_of_getElem? (i := 0) rfl))
      have A_m := G15
      have A_m : AI Z h15_ m .int [.int m0, .int m1, .int p, .int m3] := A_m
      refine Ok.aloadN cx d6_16 rfl 17 rfl ?_
      refine Ok.iconst cx d6_17 18 rfl (3 : Int32) rfl ?_
      refine Ok.aloadN cx d6_18 rfl 19 rfl ?_
      refine Ok.iconst cx d6_19 20 rfl (3 : Int32) rfl ?_
      refine Ok.iaload cx d6_20 A_m (3) rfl (v := (.int m3)) rfl 21 rfl ?_
      refine Ok.iconst cx d6_21 22 rfl (1 : Int32) rfl ?_
      refine Ok.iadd cx d6_22 23 rfl fun t22 e22 => ?_
      have s22 := own_add e22 (by omega) (by omega)
      refine Ok.iastore cx d6_23 A_m (3) rfl (by simp) (by first | assumption | omega) 24 rfl fun h23_ W23 G23 => ?_
      have Z0 := Nat.le_trans Z0 (Nat.le_of_eq W23.size.symm)
      have K_h := K_h.wr W23 (Or.inl (List.mem_of_getElem? (i := 0) rfl))
      have A_m := G23
      have A_m : AI Z h23_ m .int [.int m0, .int m1, .int p, .int t22] := A_m
      refine Ok.iconst cx d6_24 25 rfl (1 : Int32) rfl ?_
      exact Ok.zreturn cx d6_25 (by decide) (by decide) ⟨Z0, K_h, _, rfl, Or.inr ⟨hvL, rfl, _, _, _, _, A_m, ⟨by simp; omega, by simp, (fun u hu => by have := h0 a rfl; simp at hu; omega), (fun u hu => by have := h1 b rfl; simp at hu; omega), (fun u hu => by simp at hu; omega)⟩⟩⟩
    · skip
      exact absurd hl3 (by simp)
  · skip
    refine Ok.iconst cx d6_8 9 rfl (0 : Int32) rfl ?_
    exact Ok.zreturn cx d6_9 (by decide) (by decide) ⟨Z0, K_h, _, rfl, Or.inl ⟨hh.mp (by omega), rfl, _, _, _, _, A_m, hR⟩⟩
theorem d9_0 : decode method_6_code 0 = .ok (.aload_n 0, 1) := by decide +kernel
theorem d9_1 : decode method_6_code 1 = .ok (.iconst 0, 1) := by decide +kernel
theorem d9_2 : decode method_6_code 2 = .ok (.iaload, 1) := by decide +kernel
theorem d9_3 : decode method_6_code 3 = .ok (.istore_n 1, 1) := by decide +kernel
theorem d9_4 : decode method_6_code 4 = .ok (.aload_n 0, 1) := by decide +kernel
theorem d9_5 : decode method_6_code 5 = .ok (.iconst 0, 1) := by decide +kernel
theorem d9_6 : decode method_6_code 6 = .ok (.aload_n 0, 1) := by decide +kernel
theorem d9_7 : decode method_6_code 7 = .ok (.iconst 1, 1) := by decide +kernel
theorem d9_8 : decode method_6_code 8 = .ok (.iaload, 1) := by decide +kernel
theorem d9_9 : decode method_6_code 9 = .ok (.iastore, 1) := by decide +kernel
theorem d9_10 : decode method_6_code 10 = .ok (.aload_n 0, 1) := by decide +kernel
theorem d9_11 : decode method_6_code 11 = .ok (.iconst 1, 1) := by decide +kernel
theorem d9_12 : decode method_6_code 12 = .ok (.aload_n 0, 1) := by decide +kernel
theorem d9_13 : decode method_6_code 13 = .ok (.iconst 2, 1) := by decide +kernel
theorem d9_14 : decode method_6_code 14 = .ok (.iaload, 1) := by decide +kernel
theorem d9_15 : decode method_6_code 15 = .ok (.iastore, 1) := by decide +kernel
theorem d9_16 : decode method_6_code 16 = .ok (.aload_n 0, 1) := by decide +kernel
theorem d9_17 : decode method_6_code 17 = .ok (.iconst 3, 1) := by decide +kernel
theorem d9_18 : decode method_6_code 18 = .ok (.aload_n 0, 1) := by decide +kernel
theorem d9_19 : decode method_6_code 19 = .ok (.iconst 3, 1) := by decide +kernel
theorem d9_20 : decode method_6_code 20 = .ok (.iaload, 1) := by decide +kernel
theorem d9_21 : decode method_6_code 21 = .ok (.iconst 1, 1) := by decide +kernel
theorem d9_22 : decode method_6_code 22 = .ok (.isub, 1) := by decide +kernel
theorem d9_23 : decode method_6_code 23 = .ok (.iastore, 1) := by decide +kernel
theorem d9_24 : decode method_6_code 24 = .ok (.iload_n 1, 1) := by decide +kernel
theorem d9_25 : decode method_6_code 25 = .ok (.ireturn, 1) := by decide +kernel
theorem pn_9 : plainFor (⟨"com/example/leeway/leeway/solver/VariableQueuePollPinLaw", "mPoll", "([I)I"⟩ : MethodName) = true := by first | exact plainFor_of_name (by first | (simp [plainName, overriddenIn]; done) | decide +kernel) | decide +kernel
set_option maxRecDepth 65536 in
set_option maxHeartbeats 40000000 in
theorem rm_9 (l : Launch) (Z : State) (a0 : Array Value) (hw : ∀ d ∈ tables_1, d.before a0 Z = true) (m : Addr) (m0 m1 m2 m3 : Int32) (L : List Nat) (v : Nat) (h : Heap) (n0 : Nat) (Z0 : n0 ≤ h.size) (A_m : AI Z h m .int [.int m0, .int m1, .int m2, .int m3]) (zm : n0 ≤ m) (hR : own_R (v :: L) m0 m1 m2 m3) :
    Does l Z (⟨"com/example/leeway/leeway/solver/VariableQueuePollPinLaw", "mPoll", "([I)I"⟩ : MethodName) method_6_code 2 (some .int) ({ frames := 0, cells := 0, slots := 0, locals := 0 } : Room) #[(.ref m)] h n0 (fun v' h' => n0 ≤ h'.size ∧ Keep h h' [m] ∧ ∃ x : Int32, v' = some (.int x) ∧ x.toInt = v ∧ ∃ m0 m1 m2 m3 : Int32, AI Z h' m .int [.int m0, .int m1, .int m2, .int m3] ∧ own_R L m0 m1 m2 m3) := by
  refine Does.of_body pn_9 [.val (.ref m), .unset] (fun m => by first | (simp [entryFrame, mkF, argsToLocals, Value.category]; done) | rfl) ?_
  intro W hWl cx
  subst hWl
  have cx : Cx W Z "com/example/leeway/leeway/solver/VariableQueuePollPinLaw" "mPoll" method_6_code 2 (some .int) := cx
  have l32_0 : (0 : Int32).toInt = 0 := rfl
  have l32_1 : (1 : Int32).toInt = 1 := rfl
  have l32_2 : (2 : Int32).toInt = 2 := rfl
  have l32_3 : (3 : Int32).toInt = 3 := rfl
  have K_h := Keep.refl h [m]
  refine Ok.aloadN cx d9_0 rfl 1 rfl ?_
  refine Ok.iconst cx d9_1 2 rfl (0 : Int32) rfl ?_
  refine Ok.iaload cx d9_2 A_m (0) rfl (v := (.int m0)) rfl 3 rfl ?_
  refine Ok.istoreN cx d9_3 rfl One.u [.val (.ref m), .val (.int m0)] rfl 4 rfl ?_
  refine Ok.aloadN cx d9_4 rfl 5 rfl ?_
  refine Ok.iconst cx d9_5 6 rfl (0 : Int32) rfl ?_
  refine Ok.aloadN cx d9_6 rfl 7 rfl ?_
  refine Ok.iconst cx d9_7 8 rfl (1 : Int32) rfl ?_
  refine Ok.iaload cx d9_8 A_m (1) rfl (v := (.int m1)) rfl 9 rfl ?_
  refine Ok.iastore cx d9_9 A_m (0) rfl (by simp) (by first | assumption | omega) 10 rfl fun h9_ W9 G9 => ?_
  have Z0 := Nat.le_trans Z0 (Nat.le_of_eq W9.size.symm)
  have K_h := K_h.wr W9 (Or.inl (List.mem_of_getElem? (i := 0) rfl))
  have A_m := G9
  have A_m : AI Z h9_ m .int [.int m1, .int m1, .int m2, .int m3] := A_m
  refine Ok.aloadN cx d9_10 rfl 11 rfl ?_
  refine Ok.iconst cx d9_11 12 rfl (1 : Int32) rfl ?_
  refine Ok.aloadN cx d9_12 rfl 13 rfl ?_
  refine Ok.iconst cx d9_13 14 rfl (2 : Int32) rfl ?_
  refine Ok.iaload cx d9_14 A_m (2) rfl (v := (.int m2)) rfl 15 rfl ?_
  refine Ok.iastore cx d9_15 A_m (1) rfl (by simp) (by first | assumption | omega) 16 rfl fun h15_ W15 G15 => ?_
  have Z0 := Nat.le_trans Z0 (Nat.le_of_eq W15.size.symm)
  have K_h := K_h.wr W15 (Or.inl (List.mem_of_getElem? (i := 0) rfl))
  have A_m := G15
  have A_m : AI Z h15_ m .int [.int m1, .int m2, .int m2, .int m3] := A_m
  refine Ok.aloadN cx d9_16 rfl 17 rfl ?_
  refine Ok.iconst cx d9_17 18 rfl (3 : Int32) rfl ?_
  refine Ok.aloadN cx d9_18 rfl 19 rfl ?_
  refine Ok.iconst cx d9_19 20 rfl (3 : Int32) rfl ?_
  refine Ok.iaload cx d9_20 A_m (3) rfl (v := (.int m3)) rfl 21 rfl ?_
  refine Ok.iconst cx d9_21 22 rfl (1 : Int32) rfl ?_
  refine Ok.isub cx d9_22 23 rfl fun t22 e22 => ?_
  have s22 := own_sub e22 (by obtain ⟨h3, hl, -⟩ := hR; simp only [List.length_cons] at h3 hl; omega) (by obtain ⟨h3, hl, -⟩ := hR; simp only [List.length_cons] at h3 hl; omega)
  refine Ok.iastore cx d9_23 A_m (3) rfl (by simp) (by first | assumption | omega) 24 rfl fun h23_ W23 G23 => ?_
  have Z0 := Nat.le_trans Z0 (Nat.le_of_eq W23.size.symm)
  have K_h := K_h.wr W23 (Or.inl (List.mem_of_getElem? (i := 0) rfl))
  have A_m := G23
  have A_m : AI Z h23_ m .int [.int m1, .int m2, .int m2, .int t22] := A_m
  refine Ok.iloadN cx d9_24 rfl 25 rfl ?_
  exact Ok.ireturn cx d9_25 (by decide) (by decide) ⟨Z0, K_h, _, rfl, hR.2.2.1 v rfl, _, _, _, _, A_m, own_pop hR (by omega)⟩
theorem d4_0 : decode method_3_code 0 = .ok (.iload 4, 2) := by decide +kernel
theorem d4_2 : decode method_3_code 2 = .ok (.iconst 2, 1) := by decide +kernel
theorem d4_3 : decode method_3_code 3 = .ok (.iload 5, 2) := by decide +kernel
theorem d4_5 : decode method_3_code 5 = .ok (.imul, 1) := by decide +kernel
theorem d4_6 : decode method_3_code 6 = .ok (.iushr, 1) := by decide +kernel
theorem d4_7 : decode method_3_code 7 = .ok (.iconst 3, 1) := by decide +kernel
theorem d4_8 : decode method_3_code 8 = .ok (.iand, 1) := by decide +kernel
theorem d4_9 : decode method_3_code 9 = .ok (.iload_n 2, 1) := by decide +kernel
theorem d4_10 : decode method_3_code 10 = .ok (.irem, 1) := by decide +kernel
theorem d4_11 : decode method_3_code 11 = .ok (.istore 6, 2) := by decide +kernel
theorem d4_13 : decode method_3_code 13 = .ok (.iload_n 3, 1) := by decide +kernel
theorem d4_14 : decode method_3_code 14 = .ok (.iload 5, 2) := by decide +kernel
theorem d4_16 : decode method_3_code 16 = .ok (.iushr, 1) := by decide +kernel
theorem d4_17 : decode method_3_code 17 = .ok (.iconst 1, 1) := by decide +kernel
theorem d4_18 : decode method_3_code 18 = .ok (.iand, 1) := by decide +kernel
theorem d4_19 : decode method_3_code 19 = .ok (.ifCond .eq 7, 3) := by decide +kernel
theorem d4_22 : decode method_3_code 22 = .ok (.iconst 1, 1) := by decide +kernel
theorem d4_23 : decode method_3_code 23 = .ok (.goto 4, 3) := by decide +kernel
theorem d4_26 : decode method_3_code 26 = .ok (.iconst 0, 1) := by decide +kernel
theorem d4_27 : decode method_3_code 27 = .ok (.istore 7, 2) := by decide +kernel
theorem d4_29 : decode method_3_code 29 = .ok (.iload 7, 2) := by decide +kernel
theorem d4_31 : decode method_3_code 31 = .ok (.ifCond .eq 34, 3) := by decide +kernel
theorem d4_34 : decode method_3_code 34 = .ok (.aload_n 1, 1) := by decide +kernel
theorem d4_35 : decode method_3_code 35 = .ok (.iconst 3, 1) := by decide +kernel
theorem d4_36 : decode method_3_code 36 = .ok (.iaload, 1) := by decide +kernel
theorem d4_37 : decode method_3_code 37 = .ok (.ifCond .le 28, 3) := by decide +kernel
theorem d4_40 : decode method_3_code 40 = .ok (.aload_n 0, 1) := by decide +kernel
theorem d4_41 : decode method_3_code 41 = .ok (.invokevirtual 22, 3) := by decide +kernel
theorem d4_44 : decode method_3_code 44 = .ok (.istore 8, 2) := by decide +kernel
theorem d4_46 : decode method_3_code 46 = .ok (.aload_n 1, 1) := by decide +kernel
theorem d4_47 : decode method_3_code 47 = .ok (.invokestatic 26, 3) := by decide +kernel
theorem d4_50 : decode method_3_code 50 = .ok (.istore 9, 2) := by decide +kernel
theorem d4_52 : decode method_3_code 52 = .ok (.iload 8, 2) := by decide +kernel
theorem d4_54 : decode method_3_code 54 = .ok (.iload 9, 2) := by decide +kernel
theorem d4_56 : decode method_3_code 56 = .ok (.if_icmp .ne 7, 3) := by decide +kernel
theorem d4_59 : decode method_3_code 59 = .ok (.iconst 1, 1) := by decide +kernel
theorem d4_60 : decode method_3_code 60 = .ok (.goto 4, 3) := by decide +kernel
theorem d4_63 : decode method_3_code 63 = .ok (.iconst 0, 1) := by decide +kernel
theorem d4_64 : decode method_3_code 64 = .ok (.ireturn, 1) := by decide +kernel
theorem d4_65 : decode method_3_code 65 = .ok (.aload_n 0, 1) := by decide +kernel
theorem d4_66 : decode method_3_code 66 = .ok (.iload 6, 2) := by decide +kernel
theorem d4_68 : decode method_3_code 68 = .ok (.invokevirtual 30, 3) := by decide +kernel
theorem d4_71 : decode method_3_code 71 = .ok (.istore 8, 2) := by decide +kernel
theorem d4_73 : decode method_3_code 73 = .ok (.aload_n 1, 1) := by decide +kernel
theorem d4_74 : decode method_3_code 74 = .ok (.iload 6, 2) := by decide +kernel
theorem d4_76 : decode method_3_code 76 = .ok (.invokestatic 34, 3) := by decide +kernel
theorem d4_79 : decode method_3_code 79 = .ok (.istore 9, 2) := by decide +kernel
theorem d4_81 : decode method_3_code 81 = .ok (.iload 8, 2) := by decide +kernel
theorem d4_83 : decode method_3_code 83 = .ok (.iload 9, 2) := by decide +kernel
theorem d4_85 : decode method_3_code 85 = .ok (.if_icmp .ne 7, 3) := by decide +kernel
theorem d4_88 : decode method_3_code 88 = .ok (.iconst 1, 1) := by decide +kernel
theorem d4_89 : decode method_3_code 89 = .ok (.goto 4, 3) := by decide +kernel
theorem d4_92 : decode method_3_code 92 = .ok (.iconst 0, 1) := by decide +kernel
theorem d4_93 : decode method_3_code 93 = .ok (.ireturn, 1) := by decide +kernel
theorem pn_4 : plainFor (⟨"com/example/leeway/leeway/solver/VariableQueuePollPinLaw", "step", "(Lcom/example/leeway/leeway/solver/VariableQueue;[IIIII)Z"⟩ : MethodName) = true := by first | exact plainFor_of_name (by first | (simp [plainName, overriddenIn]; done) | decide +kernel) | decide +kernel
theorem pd_2 : parseMethodDescriptor "(I)Z" = some ⟨[.int], some .boolean⟩ := by decide +kernel
theorem pd_3 : parseMethodDescriptor "()I" = some ⟨[], some .int⟩ := by decide +kernel
theorem pd_4 : parseMethodDescriptor "([I)I" = some ⟨[(.array .int)], some .int⟩ := by decide +kernel
set_option maxRecDepth 65536 in
set_option maxHeartbeats 40000000 in
theorem rm_4 (l : Launch) (Z : State) (a0 : Array Value) (hw : ∀ d ∈ tables_1, d.before a0 Z = true) (q r w m : Addr) (p2 p3 p4 p5 m0 m1 m2 m3 : Int32) (N : Nat) (L : List Nat) (h : Heap) (n0 : Nat) (Z0 : n0 ≤ h.size) (G : VQ Z h q r w N L) (A_m : AI Z h m .int [.int m0, .int m1, .int m2, .int m3]) (hR : own_R L m0 m1 m2 m3) (nqr : q ≠ r) (nqw : q ≠ w) (nrw : r ≠ w) (zq : n0 ≤ q) (zr : n0 ≤ r) (zw : n0 ≤ w) (hN : N ≤ 4) (nqm : q ≠ m) (nrm : r ≠ m) (nwm : w ≠ m) (zm : n0 ≤ m) (hn : p2.toInt = N) (hN1 : 1 ≤ N) (hN3 : N ≤ 3) :
    Does l Z (⟨"com/example/leeway/leeway/solver/VariableQueuePollPinLaw", "step", "(Lcom/example/leeway/leeway/solver/VariableQueue;[IIIII)Z"⟩ : MethodName) method_3_code 10 (some .boolean) ({ frames := 2, cells := 0, slots := 0, locals := 26 } : Room) #[(.ref q), (.ref m), (.int p2), (.int p3), (.int p4), (.int p5)] h n0 (fun v' h' => n0 ≤ h'.size ∧ ∃ (x : Int32) (L' : List Nat), v' = some (.int x) ∧ x.toInt = 1 ∧ VQ Z h' q r w N L' ∧ ∃ m0 m1 m2 m3 : Int32, AI Z h' m .int [.int m0, .int m1, .int m2, .int m3] ∧ own_R L' m0 m1 m2 m3) := by
  refine Does.of_body pn_4 [.val (.ref q), .val (.ref m), .val (.int p2), .val (.int p3), .val (.int p4), .val (.int p5), .unset, .unset, .unset, .unset] (fun m => by first | (simp [entryFrame, mkF, argsToLocals, Value.category]; done) | rfl) ?_
  intro W hWl cx
  subst hWl
  have cx : Cx W Z "com/example/leeway/leeway/solver/VariableQueuePollPinLaw" "step" method_3_code 10 (some .boolean) := cx
  have lz1 : ((1 : Int32) &&& 1).toInt = 1 := rfl
  have lz0 : ((0 : Int32) &&& 1).toInt = 0 := rfl
  have l32_2 : (2 : Int32).toInt = 2 := rfl
  have l32_3 : (3 : Int32).toInt = 3 := rfl
  have l32_1 : (1 : Int32).toInt = 1 := rfl
  have l32_0 : (0 : Int32).toInt = 0 := rfl
  have hL3 := hR.2.1; have h3 := hR.1
  refine Ok.iload cx d4_0 rfl 2 rfl ?_
  refine Ok.iconst cx d4_2 3 rfl (2 : Int32) rfl ?_
  refine Ok.iload cx d4_3 rfl 5 rfl ?_
  refine Ok.imul cx d4_5 6 rfl fun t5 e5 => ?_
  refine Ok.iushr cx d4_6 7 rfl fun t6 e6 => ?_
  refine Ok.iconst cx d4_7 8 rfl (3 : Int32) rfl ?_
  refine Ok.iand cx d4_8 9 rfl fun t8 e8 => ?_
  refine Ok.iloadN cx d4_9 rfl 10 rfl ?_
  refine Ok.irem cx d4_10 (own_nz (by omega)) 11 rfl fun t10 e10 => ?_
  have m8 := c_mask t6 3 2 (by decide) (by decide); rw [← e8] at m8
  obtain ⟨V, hV, hVN⟩ := own_rem e10 (by omega) hn hN1
  clear m8
  refine Ok.istore cx d4_11 rfl One.u [.val (.ref q), .val (.ref m), .val (.int p2), .val (.int p3), .val (.int p4), .val (.int p5), .val (.int t10), .unset, .unset, .unset] rfl 13 rfl ?_
  refine Ok.iloadN cx d4_13 rfl 14 rfl ?_
  refine Ok.iload cx d4_14 rfl 16 rfl ?_
  refine Ok.iushr cx d4_16 17 rfl fun t16 e16 => ?_
  refine Ok.iconst cx d4_17 18 rfl (1 : Int32) rfl ?_
  refine Ok.iand cx d4_18 19 rfl fun t18 e18 => ?_
  refine Ok.if_eq cx d4_19 26 22 (by decide) rfl (fun c19 => ?_) (fun c19 => ?_)
  · skip
    refine Ok.iconst cx d4_26 27 rfl (0 : Int32) rfl ?_
    refine Ok.istore cx d4_27 rfl One.u [.val (.ref q), .val (.ref m), .val (.int p2), .val (.int p3), .val (.int p4), .val (.int p5), .val (.int t10), .val (.int (0 : Int32)), .unset, .unset] rfl 29 rfl ?_
    refine Ok.iload cx d4_29 rfl 31 rfl ?_
    refine Ok.if_eq cx d4_31 65 34 (by decide) rfl (fun c31 => ?_) (fun c31 => by exfalso; omega)
    refine Ok.aloadN cx d4_65 rfl 66 rfl ?_
    refine Ok.iload cx d4_66 rfl 68 rfl ?_
    refine Ok.callVirtual cx (a := q) [(.int t10)] [] rfl (own_w hw 23 rfl) (own_w hw 24 rfl) (own_w hw 26 rfl) (own_w hw 25 rfl) (own_w hw 2 rfl) (own_w hw 27 rfl) d4_68 (by decide) pd_2 rfl rfl G.exa (rm_5 W.l Z a0 hw q r w t10 N V L h n0 Z0 G nqr nqw nrw zq zr zw hN hV hVN) (by decide) 0 rfl (by decide) (by decide) (by decide) 71 rfl fun v68 h68_ q68 => ?_
    obtain ⟨Z0, K68, r68, rfl, x68⟩ := q68
    have A_m := A_m.keep K68 (ninS nqm.symm (ninS nrm.symm (ninS nwm.symm nin0)))
    have hln : V ∉ L → L.length < 3 := fun z => by obtain ⟨ring, wt, hd, ct, H, -, -, -, -, -, -, -, -, -, -, -, -, hnd, hbd, -⟩ := G; have := own_lenlt hnd hbd hVN z; omega
    show Ok _ _ _ _ _ _ _ _ _ [(.int r68)]
    refine Ok.istore cx d4_71 rfl One.u [.val (.ref q), .val (.ref m), .val (.int p2), .val (.int p3), .val (.int p4), .val (.int p5), .val (.int t10), .val (.int (0 : Int32)), .val (.int r68), .unset] rfl 73 rfl ?_
    refine Ok.aloadN cx d4_73 rfl 74 rfl ?_
    refine Ok.iload cx d4_74 rfl 76 rfl ?_
    refine Ok.callStatic cx [(.ref m), (.int t10)] [] rfl (own_w hw 32 rfl) (own_w hw 33 rfl) (own_w hw 21 rfl) (own_w hw 34 rfl) d4_76 (by decide) pd_1 rfl rfl  (rm_6 W.l Z a0 hw m t10 m0 m1 m2 m3 L V h68_ n0 Z0 A_m zm hR hV hln) (by decide) 0 rfl (by decide) (by decide) (by decide) 79 rfl fun v76 h76_ q76 => ?_
    obtain ⟨Z0, K76, r76, rfl, x76⟩ := q76
    show Ok _ _ _ _ _ _ _ _ _ [(.int r76)]
    have fin : r68.toInt = r76.toInt ∧ ∃ L', VQ Z h76_ q r w N L' ∧ ∃ m0 m1 m2 m3 : Int32, AI Z h76_ m .int [.int m0, .int m1, .int m2, .int m3] ∧ own_R L' m0 m1 m2 m3 := by
      rcases x68 with ⟨a1, a2, a3⟩ | ⟨a1, a2, a3⟩ <;> rcases x76 with ⟨b1, b2, b3⟩ | ⟨b1, b2, b3⟩
      · exact ⟨by omega, _, a3.keep K76 (ninS nqm nin0) (ninS nrm nin0) (ninS nwm nin0), b3⟩
      · exact absurd a1 b1
      · exact absurd b1 a1
      · exact ⟨by omega, _, a3.keep K76 (ninS nqm nin0) (ninS nrm nin0) (ninS nwm nin0), b3⟩
    obtain ⟨fe, L', G', B_m⟩ := fin
    refine Ok.istore cx d4_79 rfl One.u [.val (.ref q), .val (.ref m), .val (.int p2), .val (.int p3), .val (.int p4), .val (.int p5), .val (.int t10), .val (.int (0 : Int32)), .val (.int r68), .val (.int r76)] rfl 81 rfl ?_
    refine Ok.iload cx d4_81 rfl 83 rfl ?_
    refine Ok.iload cx d4_83 rfl 85 rfl ?_
    refine Ok.icmp_ne cx d4_85 92 88 (by decide) rfl (fun c85 => by exfalso; omega) (fun c85 => ?_)
    refine Ok.iconst cx d4_88 89 rfl (1 : Int32) rfl ?_
    refine Ok.goto cx d4_89 93 (by decide) ?_
    exact Ok.zreturn cx d4_93 (by decide) (by decide) ⟨Z0, _, L', rfl, rfl, G', B_m⟩
  · skip
    refine Ok.iconst cx d4_22 23 rfl (1 : Int32) rfl ?_
    refine Ok.goto cx d4_23 27 (by decide) ?_
    refine Ok.istore cx d4_27 rfl One.u [.val (.ref q), .val (.ref m), .val (.int p2), .val (.int p3), .val (.int p4), .val (.int p5), .val (.int t10), .val (.int (1 : Int32)), .unset, .unset] rfl 29 rfl ?_
    refine Ok.iload cx d4_29 rfl 31 rfl ?_
    refine Ok.if_eq cx d4_31 65 34 (by decide) rfl (fun c31 => by exfalso; omega) (fun c31 => ?_)
    refine Ok.aloadN cx d4_34 rfl 35 rfl ?_
    refine Ok.iconst cx d4_35 36 rfl (3 : Int32) rfl ?_
    refine Ok.iaload cx d4_36 A_m (3) rfl (v := (.int m3)) rfl 37 rfl ?_
    refine Ok.if_le cx d4_37 65 40 (by decide) rfl (fun c37 => ?_) (fun c37 => ?_)
    · skip
      refine Ok.aloadN cx d4_65 rfl 66 rfl ?_
      refine Ok.iload cx d4_66 rfl 68 rfl ?_
      refine Ok.callVirtual cx (a := q) [(.int t10)] [] rfl (own_w hw 23 rfl) (own_w hw 24 rfl) (own_w hw 26 rfl) (own_w hw 25 rfl) (own_w hw 2 rfl) (own_w hw 27 rfl) d4_68 (by decide) pd_2 rfl rfl G.exa (rm_5 W.l Z a0 hw q r w t10 N V L h n0 Z0 G nqr nqw nrw zq zr zw hN hV hVN) (by decide) 0 rfl (by decide) (by decide) (by decide) 71 rfl fun v68 h68_ q68 => ?_
      obtain ⟨Z0, K68, r68, rfl, x68⟩ := q68
      have A_m := A_m.keep K68 (ninS nqm.symm (ninS nrm.symm (ninS nwm.symm nin0)))
      have hln : V ∉ L → L.length < 3 := fun z => by obtain ⟨ring, wt, hd, ct, H, -, -, -, -, -, -, -, -, -, -, -, -, hnd, hbd, -⟩ := G; have := own_lenlt hnd hbd hVN z; omega
      show Ok _ _ _ _ _ _ _ _ _ [(.int r68)]
      refine Ok.istore cx d4_71 rfl One.u [.val (.ref q), .val (.ref m), .val (.int p2), .val (.int p3), .val (.int p4), .val (.int p5), .val (.int t10), .val (.int (1 : Int32)), .val (.int r68), .unset] rfl 73 rfl ?_
      refine Ok.aloadN cx d4_73 rfl 74 rfl ?_
      refine Ok.iload cx d4_74 rfl 76 rfl ?_
      refine Ok.callStatic cx [(.ref m), (.int t10)] [] rfl (own_w hw 32 rfl) (own_w hw 33 rfl) (own_w hw 21 rfl) (own_w hw 34 rfl) d4_76 (by decide) pd_1 rfl rfl  (rm_6 W.l Z a0 hw m t10 m0 m1 m2 m3 L V h68_ n0 Z0 A_m zm hR hV hln) (by decide) 0 rfl (by decide) (by decide) (by decide) 79 rfl fun v76 h76_ q76 => ?_
      obtain ⟨Z0, K76, r76, rfl, x76⟩ := q76
      show Ok _ _ _ _ _ _ _ _ _ [(.int r76)]
      have fin : r68.toInt = r76.toInt ∧ ∃ L', VQ Z h76_ q r w N L' ∧ ∃ m0 m1 m2 m3 : Int32, AI Z h76_ m .int [.int m0, .int m1, .int m2, .int m3] ∧ own_R L' m0 m1 m2 m3 := by
        rcases x68 with ⟨a1, a2, a3⟩ | ⟨a1, a2, a3⟩ <;> rcases x76 with ⟨b1, b2, b3⟩ | ⟨b1, b2, b3⟩
        · exact ⟨by omega, _, a3.keep K76 (ninS nqm nin0) (ninS nrm nin0) (ninS nwm nin0), b3⟩
        · exact absurd a1 b1
        · exact absurd b1 a1
        · exact ⟨by omega, _, a3.keep K76 (ninS nqm nin0) (ninS nrm nin0) (ninS nwm nin0), b3⟩
      obtain ⟨fe, L', G', B_m⟩ := fin
      refine Ok.istore cx d4_79 rfl One.u [.val (.ref q), .val (.ref m), .val (.int p2), .val (.int p3), .val (.int p4), .val (.int p5), .val (.int t10), .val (.int (1 : Int32)), .val (.int r68), .val (.int r76)] rfl 81 rfl ?_
      refine Ok.iload cx d4_81 rfl 83 rfl ?_
      refine Ok.iload cx d4_83 rfl 85 rfl ?_
      refine Ok.icmp_ne cx d4_85 92 88 (by decide) rfl (fun c85 => by exfalso; omega) (fun c85 => ?_)
      refine Ok.iconst cx d4_88 89 rfl (1 : Int32) rfl ?_
      refine Ok.goto cx d4_89 93 (by decide) ?_
      exact Ok.zreturn cx d4_93 (by decide) (by decide) ⟨Z0, _, L', rfl, rfl, G', B_m⟩
    · skip
      obtain ⟨u, L', rfl⟩ : ∃ u L', L = u :: L' := by
        match L with
        | [] => simp at h3; omega
        | u :: L' => exact ⟨u, L', rfl⟩
      refine Ok.aloadN cx d4_40 rfl 41 rfl ?_
      refine Ok.callVirtual cx (a := q) [] [] rfl (own_w hw 38 rfl) (own_w hw 39 rfl) (own_w hw 41 rfl) (own_w hw 40 rfl) (own_w hw 2 rfl) (own_w hw 42 rfl) d4_41 (by decide) pd_3 rfl rfl G.exa (rm_8 W.l Z a0 hw q r w N u L' h n0 Z0 G nqr nqw nrw zq zr zw hN) (by decide) 0 rfl (by decide) (by decide) (by decide) 44 rfl fun v41 h41_ q41 => ?_
      obtain ⟨Z0, K41, r41, rfl, x41, G⟩ := q41
      have A_m := A_m.keep K41 (ninS nqm.symm (ninS nrm.symm (ninS nwm.symm nin0)))
      show Ok _ _ _ _ _ _ _ _ _ [(.int r41)]
      refine Ok.istore cx d4_44 rfl One.u [.val (.ref q), .val (.ref m), .val (.int p2), .val (.int p3), .val (.int p4), .val (.int p5), .val (.int t10), .val (.int (1 : Int32)), .val (.int r41), .unset] rfl 46 rfl ?_
      refine Ok.aloadN cx d4_46 rfl 47 rfl ?_
      refine Ok.callStatic cx [(.ref m)] [] rfl (own_w hw 43 rfl) (own_w hw 44 rfl) (own_w hw 21 rfl) (own_w hw 45 rfl) d4_47 (by decide) pd_4 rfl rfl  (rm_9 W.l Z a0 hw m m0 m1 m2 m3 L' u h41_ n0 Z0 A_m zm hR) (by decide) 0 rfl (by decide) (by decide) (by decide) 50 rfl fun v47 h47_ q47 => ?_
      obtain ⟨Z0, K47, r47, rfl, x47, B_m⟩ := q47
      have G := G.keep K47 (ninS nqm nin0) (ninS nrm nin0) (ninS nwm nin0)
      show Ok _ _ _ _ _ _ _ _ _ [(.int r47)]
      refine Ok.istore cx d4_50 rfl One.u [.val (.ref q), .val (.ref m), .val (.int p2), .val (.int p3), .val (.int p4), .val (.int p5), .val (.int t10), .val (.int (1 : Int32)), .val (.int r41), .val (.int r47)] rfl 52 rfl ?_
      refine Ok.iload cx d4_52 rfl 54 rfl ?_
      refine Ok.iload cx d4_54 rfl 56 rfl ?_
      refine Ok.icmp_ne cx d4_56 63 59 (by decide) rfl (fun c56 => by exfalso; omega) (fun c56 => ?_)
      refine Ok.iconst cx d4_59 60 rfl (1 : Int32) rfl ?_
      refine Ok.goto cx d4_60 64 (by decide) ?_
      exact Ok.zreturn cx d4_64 (by decide) (by decide) ⟨Z0, _, L', rfl, rfl, G, B_m⟩
theorem pn_0 : plainFor x = true := by first | exact plainFor_of_name (by first | (simp [plainName, overriddenIn]; done) | decide +kernel) | decide +kernel
theorem pd_5 : parseMethodDescriptor "(I)V" = some ⟨[.int], none⟩ := by decide +kernel
theorem pd_6 : parseMethodDescriptor "(Lcom/example/leeway/leeway/solver/VariableQueue;[IIIII)Z" = some ⟨[(.object "com/example/leeway/leeway/solver/VariableQueue"), (.array .int), .int, .int, .int, .int], some .boolean⟩ := by decide +kernel
theorem pd_7 : parseMethodDescriptor "()Z" = some ⟨[], some .boolean⟩ := by decide +kernel
set_option maxRecDepth 65536 in
set_option maxHeartbeats 40000000 in
theorem rm_0 (l : Launch) (Z : State) (a0 : Array Value) (hw : ∀ d ∈ tables_1, d.before a0 Z = true) (p0 p1 p2 : Int32) (h : Heap) (n0 : Nat) (Z0 : n0 ≤ h.size)  :
    DoesW l Z x code maxLocals ret room_1 tables_1 #[(.int p0), (.int p1), (.int p2)] h n0 (fun v _ => v = some (.int 1)) := by
  refine DoesW.of_body pn_0 [.val (.int p0), .val (.int p1), .val (.int p2), .unset, .unset, .unset, .unset] (fun m => by first | (simp [entryFrame, mkF, argsToLocals, Value.category, maxLocals]; done) | rfl) ?_
  intro W hWl cx
  subst hWl
  have cx : Cx W Z "com/example/leeway/leeway/solver/VariableQueuePollPinLaw" "law" code 7 (some .boolean) := cx
  have lz1 : ((1 : Int32) &&& 1).toInt = 1 := rfl
  have lz0 : ((0 : Int32) &&& 1).toInt = 0 := rfl
  have l32_1 : (1 : Int32).toInt = 1 := rfl
  have l32_3 : (3 : Int32).toInt = 3 := rfl
  have l32_0 : (0 : Int32).toInt = 0 := rfl
  refine Ok.iconst cx at_0 1 rfl (1 : Int32) rfl ?_
  refine Ok.iloadN cx at_1 rfl 2 rfl ?_
  refine Ok.iconst cx at_2 3 rfl (3 : Int32) rfl ?_
  refine Ok.iand cx at_3 4 rfl fun t3 e3 => ?_
  refine Ok.iconst cx at_4 5 rfl (3 : Int32) rfl ?_
  refine Ok.irem cx at_5 (by decide) 6 rfl fun t5 e5 => ?_
  refine Ok.iadd cx at_6 7 rfl fun t6 e6 => ?_
  have m3 := c_mask p0 3 2 (by decide) (by decide); rw [← e3] at m3
  have m5 := c_irem t3 3 3 rfl; rw [← e5] at m5
  have s6 := own_add e6 (by omega) (by omega)
  obtain ⟨N, hp, hN1, hN3⟩ : ∃ N : Nat, t6.toInt = N ∧ 1 ≤ N ∧ N ≤ 3 := ⟨t6.toInt.toNat, by omega, by omega, by omega⟩
  have hN : N ≤ 4 := by omega
  clear m3 m5 s6
  refine Ok.istoreN cx at_7 rfl One.u [.val (.int p0), .val (.int p1), .val (.int p2), .val (.int t6), .unset, .unset, .unset] rfl 8 rfl ?_
  refine Ok.new cx (own_w hw 0 rfl) (own_w hw 1 rfl) (own_w hw 2 rfl) at_8 (by decide) (by decide) 11 rfl fun h8_ q g8 E8 X8 D8 => ?_
  have zq : n0 ≤ q := by rw [g8]; exact Z0
  have Z0 := Nat.le_trans Z0 E8.1
  have Fq_ring : Fld Z h8_ q "com/example/leeway/leeway/solver/VariableQueue" "ring" "[I" .null := D8 (Or.inr (own_w hw 15 rfl)) (ty := (.array .int)) (by decide)
  have Fq_waiting : Fld Z h8_ q "com/example/leeway/leeway/solver/VariableQueue" "waiting" "[Z" .null := D8 (Or.inr (own_w hw 18 rfl)) (ty := (.array .boolean)) (by decide)
  have Fq_head : Fld Z h8_ q "com/example/leeway/leeway/solver/VariableQueue" "head" "I" (.int (0 : Int32)) := D8 (Or.inl (own_w hw 29 rfl)) (ty := .int) (by decide)
  have Fq_count : Fld Z h8_ q "com/example/leeway/leeway/solver/VariableQueue" "count" "I" (.int (0 : Int32)) := D8 (Or.inl (own_w hw 31 rfl)) (ty := .int) (by decide)
  refine Ok.dup cx at_11 rfl 12 rfl ?_
  refine Ok.iloadN cx at_12 rfl 13 rfl ?_
  refine Ok.callInit cx (a := q) [(.int t6)] [(.ref q)] rfl rfl (own_w hw 3 rfl) (own_w hw 4 rfl) (own_w hw 2 rfl) (own_w hw 5 rfl) at_13 (by decide) pd_5 rfl rfl  (rm_1 W.l Z a0 hw q t6 N h8_ n0 Z0 X8 Fq_ring Fq_waiting Fq_head Fq_count zq hp hN1 hN) (by decide) 1 rfl (by decide) (by decide) (by decide) 16 rfl fun v13 h13_ q13 => ?_
  obtain ⟨rfl, r, w, G, nqr, nqw, nrw, Z0, zr, zw⟩ := q13
  show Ok _ _ _ _ _ _ _ _ _ [(.ref q)]
  refine Ok.astore cx at_16 rfl One.u [.val (.int p0), .val (.int p1), .val (.int p2), .val (.int t6), .val (.ref q), .unset, .unset] rfl 18 rfl ?_
  refine Ok.iconst cx at_18 19 rfl (4 : Int32) rfl ?_
  refine Ok.newarray cx (own_w hw 13 rfl) at_19 rfl (4) rfl (by omega) 4 (by omega) (by omega) (by decide) (by decide) 21 rfl fun h19_ m g19 E19 V19 => ?_
  have zm : n0 ≤ m := by rw [g19]; exact Z0
  have Z0 := Nat.le_trans Z0 E19.1
  obtain ⟨lq, lr, lw⟩ := G.lt
  have nqm : q ≠ m := by rw [g19]; exact Nat.ne_of_lt lq
  have nrm : r ≠ m := by rw [g19]; exact Nat.ne_of_lt lr
  have nwm : w ≠ m := by rw [g19]; exact Nat.ne_of_lt lw
  have G := G.ext E19
  have A_m : AI Z h19_ m .int [.int 0, .int 0, .int 0, .int 0] := V19
  have hR : own_R [] 0 0 0 0 := ⟨rfl, by simp, (fun v hv => by simp at hv), (fun v hv => by simp at hv), (fun v hv => by simp at hv)⟩
  refine Ok.astore cx at_21 rfl One.u [.val (.int p0), .val (.int p1), .val (.int p2), .val (.int t6), .val (.ref q), .val (.ref m), .unset] rfl 23 rfl ?_
  refine Ok.aload cx at_23 rfl 25 rfl ?_
  refine Ok.aload cx at_25 rfl 27 rfl ?_
  refine Ok.iloadN cx at_27 rfl 28 rfl ?_
  refine Ok.iloadN cx at_28 rfl 29 rfl ?_
  refine Ok.iloadN cx at_29 rfl 30 rfl ?_
  refine Ok.iconst cx at_30 31 rfl (0 : Int32) rfl ?_
  refine Ok.callStatic cx [(.ref q), (.ref m), (.int t6), (.int p1), (.int p2), (.int (0 : Int32))] [] rfl (own_w hw 19 rfl) (own_w hw 20 rfl) (own_w hw 21 rfl) (own_w hw 22 rfl) at_31 (by decide) pd_6 rfl rfl  (rm_4 W.l Z a0 hw q r w m t6 p1 p2 (0 : Int32) 0 0 0 0 N [] h19_ n0 Z0 G A_m hR nqr nqw nrw zq zr zw hN nqm nrm nwm zm hp hN1 hN3) (by decide) 0 rfl (by decide) (by decide) (by decide) 34 rfl fun v31 h31_ q31 => ?_
  obtain ⟨Z0, r31, L31, rfl, x31, G, m0_31, m1_31, m2_31, m3_31, A_m, hR⟩ := q31
  show Ok _ _ _ _ _ _ _ _ _ [(.int r31)]
  refine Ok.istore cx at_34 rfl One.u [.val (.int p0), .val (.int p1), .val (.int p2), .val (.int t6), .val (.ref q), .val (.ref m), .val (.int r31)] rfl 36 rfl ?_
  refine Ok.iload cx at_36 rfl 38 rfl ?_
  refine Ok.if_eq cx at_38 59 41 (by decide) rfl (fun c38 => by exfalso; omega) (fun c38 => ?_)
  refine Ok.aload cx at_41 rfl 43 rfl ?_
  refine Ok.aload cx at_43 rfl 45 rfl ?_
  refine Ok.iloadN cx at_45 rfl 46 rfl ?_
  refine Ok.iloadN cx at_46 rfl 47 rfl ?_
  refine Ok.iloadN cx at_47 rfl 48 rfl ?_
  refine Ok.iconst cx at_48 49 rfl (1 : Int32) rfl ?_
  refine Ok.callStatic cx [(.ref q), (.ref m), (.int t6), (.int p1), (.int p2), (.int (1 : Int32))] [] rfl (own_w hw 19 rfl) (own_w hw 20 rfl) (own_w hw 21 rfl) (own_w hw 22 rfl) at_49 (by decide) pd_6 rfl rfl  (rm_4 W.l Z a0 hw q r w m t6 p1 p2 (1 : Int32) m0_31 m1_31 m2_31 m3_31 N L31 h31_ n0 Z0 G A_m hR nqr nqw nrw zq zr zw hN nqm nrm nwm zm hp hN1 hN3) (by decide) 0 rfl (by decide) (by decide) (by decide) 52 rfl fun v49 h49_ q49 => ?_
  obtain ⟨Z0, r49, L49, rfl, x49, G, m0_49, m1_49, m2_49, m3_49, A_m, hR⟩ := q49
  show Ok _ _ _ _ _ _ _ _ _ [(.int r49)]
  refine Ok.if_eq cx at_52 59 55 (by decide) rfl (fun c52 => by exfalso; omega) (fun c52 => ?_)
  refine Ok.iconst cx at_55 56 rfl (1 : Int32) rfl ?_
  refine Ok.goto cx at_56 60 (by decide) ?_
  refine Ok.istore cx at_60 rfl (One.val rfl) [.val (.int p0), .val (.int p1), .val (.int p2), .val (.int t6), .val (.ref q), .val (.ref m), .val (.int (1 : Int32))] rfl 62 rfl ?_
  refine Ok.iload cx at_62 rfl 64 rfl ?_
  refine Ok.if_eq cx at_64 85 67 (by decide) rfl (fun c64 => by exfalso; omega) (fun c64 => ?_)
  refine Ok.aload cx at_67 rfl 69 rfl ?_
  refine Ok.aload cx at_69 rfl 71 rfl ?_
  refine Ok.iloadN cx at_71 rfl 72 rfl ?_
  refine Ok.iloadN cx at_72 rfl 73 rfl ?_
  refine Ok.iloadN cx at_73 rfl 74 rfl ?_
  refine Ok.iconst cx at_74 75 rfl (2 : Int32) rfl ?_
  refine Ok.callStatic cx [(.ref q), (.ref m), (.int t6), (.int p1), (.int p2), (.int (2 : Int32))] [] rfl (own_w hw 19 rfl) (own_w hw 20 rfl) (own_w hw 21 rfl) (own_w hw 22 rfl) at_75 (by decide) pd_6 rfl rfl  (rm_4 W.l Z a0 hw q r w m t6 p1 p2 (2 : Int32) m0_49 m1_49 m2_49 m3_49 N L49 h49_ n0 Z0 G A_m hR nqr nqw nrw zq zr zw hN nqm nrm nwm zm hp hN1 hN3) (by decide) 0 rfl (by decide) (by decide) (by decide) 78 rfl fun v75 h75_ q75 => ?_
  obtain ⟨Z0, r75, L75, rfl, x75, G, m0_75, m1_75, m2_75, m3_75, A_m, hR⟩ := q75
  show Ok _ _ _ _ _ _ _ _ _ [(.int r75)]
  refine Ok.if_eq cx at_78 85 81 (by decide) rfl (fun c78 => by exfalso; omega) (fun c78 => ?_)
  refine Ok.iconst cx at_81 82 rfl (1 : Int32) rfl ?_
  refine Ok.goto cx at_82 86 (by decide) ?_
  refine Ok.istore cx at_86 rfl (One.val rfl) [.val (.int p0), .val (.int p1), .val (.int p2), .val (.int t6), .val (.ref q), .val (.ref m), .val (.int (1 : Int32))] rfl 88 rfl ?_
  refine Ok.iload cx at_88 rfl 90 rfl ?_
  refine Ok.if_eq cx at_90 111 93 (by decide) rfl (fun c90 => by exfalso; omega) (fun c90 => ?_)
  refine Ok.aload cx at_93 rfl 95 rfl ?_
  refine Ok.aload cx at_95 rfl 97 rfl ?_
  refine Ok.iloadN cx at_97 rfl 98 rfl ?_
  refine Ok.iloadN cx at_98 rfl 99 rfl ?_
  refine Ok.iloadN cx at_99 rfl 100 rfl ?_
  refine Ok.iconst cx at_100 101 rfl (3 : Int32) rfl ?_
  refine Ok.callStatic cx [(.ref q), (.ref m), (.int t6), (.int p1), (.int p2), (.int (3 : Int32))] [] rfl (own_w hw 19 rfl) (own_w hw 20 rfl) (own_w hw 21 rfl) (own_w hw 22 rfl) at_101 (by decide) pd_6 rfl rfl  (rm_4 W.l Z a0 hw q r w m t6 p1 p2 (3 : Int32) m0_75 m1_75 m2_75 m3_75 N L75 h75_ n0 Z0 G A_m hR nqr nqw nrw zq zr zw hN nqm nrm nwm zm hp hN1 hN3) (by decide) 0 rfl (by decide) (by decide) (by decide) 104 rfl fun v101 h101_ q101 => ?_
  obtain ⟨Z0, r101, L101, rfl, x101, G, m0_101, m1_101, m2_101, m3_101, A_m, hR⟩ := q101
  show Ok _ _ _ _ _ _ _ _ _ [(.int r101)]
  refine Ok.if_eq cx at_104 111 107 (by decide) rfl (fun c104 => by exfalso; omega) (fun c104 => ?_)
  refine Ok.iconst cx at_107 108 rfl (1 : Int32) rfl ?_
  refine Ok.goto cx at_108 112 (by decide) ?_
  refine Ok.istore cx at_112 rfl (One.val rfl) [.val (.int p0), .val (.int p1), .val (.int p2), .val (.int t6), .val (.ref q), .val (.ref m), .val (.int (1 : Int32))] rfl 114 rfl ?_
  refine Ok.iload cx at_114 rfl 116 rfl ?_
  refine Ok.if_eq cx at_116 137 119 (by decide) rfl (fun c116 => by exfalso; omega) (fun c116 => ?_)
  refine Ok.aload cx at_119 rfl 121 rfl ?_
  refine Ok.aload cx at_121 rfl 123 rfl ?_
  refine Ok.iloadN cx at_123 rfl 124 rfl ?_
  refine Ok.iloadN cx at_124 rfl 125 rfl ?_
  refine Ok.iloadN cx at_125 rfl 126 rfl ?_
  refine Ok.iconst cx at_126 127 rfl (4 : Int32) rfl ?_
  refine Ok.callStatic cx [(.ref q), (.ref m), (.int t6), (.int p1), (.int p2), (.int (4 : Int32))] [] rfl (own_w hw 19 rfl) (own_w hw 20 rfl) (own_w hw 21 rfl) (own_w hw 22 rfl) at_127 (by decide) pd_6 rfl rfl  (rm_4 W.l Z a0 hw q r w m t6 p1 p2 (4 : Int32) m0_101 m1_101 m2_101 m3_101 N L101 h101_ n0 Z0 G A_m hR nqr nqw nrw zq zr zw hN nqm nrm nwm zm hp hN1 hN3) (by decide) 0 rfl (by decide) (by decide) (by decide) 130 rfl fun v127 h127_ q127 => ?_
  obtain ⟨Z0, r127, L127, rfl, x127, G, m0_127, m1_127, m2_127, m3_127, A_m, hR⟩ := q127
  show Ok _ _ _ _ _ _ _ _ _ [(.int r127)]
  refine Ok.if_eq cx at_130 137 133 (by decide) rfl (fun c130 => by exfalso; omega) (fun c130 => ?_)
  refine Ok.iconst cx at_133 134 rfl (1 : Int32) rfl ?_
  refine Ok.goto cx at_134 138 (by decide) ?_
  refine Ok.istore cx at_138 rfl (One.val rfl) [.val (.int p0), .val (.int p1), .val (.int p2), .val (.int t6), .val (.ref q), .val (.ref m), .val (.int (1 : Int32))] rfl 140 rfl ?_
  refine Ok.iload cx at_140 rfl 142 rfl ?_
  refine Ok.if_eq cx at_142 163 145 (by decide) rfl (fun c142 => by exfalso; omega) (fun c142 => ?_)
  refine Ok.aload cx at_145 rfl 147 rfl ?_
  refine Ok.aload cx at_147 rfl 149 rfl ?_
  refine Ok.iloadN cx at_149 rfl 150 rfl ?_
  refine Ok.iloadN cx at_150 rfl 151 rfl ?_
  refine Ok.iloadN cx at_151 rfl 152 rfl ?_
  refine Ok.iconst cx at_152 153 rfl (5 : Int32) rfl ?_
  refine Ok.callStatic cx [(.ref q), (.ref m), (.int t6), (.int p1), (.int p2), (.int (5 : Int32))] [] rfl (own_w hw 19 rfl) (own_w hw 20 rfl) (own_w hw 21 rfl) (own_w hw 22 rfl) at_153 (by decide) pd_6 rfl rfl  (rm_4 W.l Z a0 hw q r w m t6 p1 p2 (5 : Int32) m0_127 m1_127 m2_127 m3_127 N L127 h127_ n0 Z0 G A_m hR nqr nqw nrw zq zr zw hN nqm nrm nwm zm hp hN1 hN3) (by decide) 0 rfl (by decide) (by decide) (by decide) 156 rfl fun v153 h153_ q153 => ?_
  obtain ⟨Z0, r153, L153, rfl, x153, G, m0_153, m1_153, m2_153, m3_153, A_m, hR⟩ := q153
  show Ok _ _ _ _ _ _ _ _ _ [(.int r153)]
  refine Ok.if_eq cx at_156 163 159 (by decide) rfl (fun c156 => by exfalso; omega) (fun c156 => ?_)
  refine Ok.iconst cx at_159 160 rfl (1 : Int32) rfl ?_
  refine Ok.goto cx at_160 164 (by decide) ?_
  refine Ok.istore cx at_164 rfl (One.val rfl) [.val (.int p0), .val (.int p1), .val (.int p2), .val (.int t6), .val (.ref q), .val (.ref m), .val (.int (1 : Int32))] rfl 166 rfl ?_
  refine Ok.iload cx at_166 rfl 168 rfl ?_
  refine Ok.if_eq cx at_168 190 171 (by decide) rfl (fun c168 => by exfalso; omega) (fun c168 => ?_)
  refine Ok.aload cx at_171 rfl 173 rfl ?_
  refine Ok.aload cx at_173 rfl 175 rfl ?_
  refine Ok.iloadN cx at_175 rfl 176 rfl ?_
  refine Ok.iloadN cx at_176 rfl 177 rfl ?_
  refine Ok.iloadN cx at_177 rfl 178 rfl ?_
  refine Ok.bipush cx at_178 180 rfl (6 : Int32) rfl ?_
  refine Ok.callStatic cx [(.ref q), (.ref m), (.int t6), (.int p1), (.int p2), (.int (6 : Int32))] [] rfl (own_w hw 19 rfl) (own_w hw 20 rfl) (own_w hw 21 rfl) (own_w hw 22 rfl) at_180 (by decide) pd_6 rfl rfl  (rm_4 W.l Z a0 hw q r w m t6 p1 p2 (6 : Int32) m0_153 m1_153 m2_153 m3_153 N L153 h153_ n0 Z0 G A_m hR nqr nqw nrw zq zr zw hN nqm nrm nwm zm hp hN1 hN3) (by decide) 0 rfl (by decide) (by decide) (by decide) 183 rfl fun v180 h180_ q180 => ?_
  obtain ⟨Z0, r180, L180, rfl, x180, G, m0_180, m1_180, m2_180, m3_180, A_m, hR⟩ := q180
  show Ok _ _ _ _ _ _ _ _ _ [(.int r180)]
  refine Ok.if_eq cx at_183 190 186 (by decide) rfl (fun c183 => by exfalso; omega) (fun c183 => ?_)
  refine Ok.iconst cx at_186 187 rfl (1 : Int32) rfl ?_
  refine Ok.goto cx at_187 191 (by decide) ?_
  refine Ok.istore cx at_191 rfl (One.val rfl) [.val (.int p0), .val (.int p1), .val (.int p2), .val (.int t6), .val (.ref q), .val (.ref m), .val (.int (1 : Int32))] rfl 193 rfl ?_
  refine Ok.iload cx at_193 rfl 195 rfl ?_
  refine Ok.if_eq cx at_195 217 198 (by decide) rfl (fun c195 => by exfalso; omega) (fun c195 => ?_)
  refine Ok.aload cx at_198 rfl 200 rfl ?_
  refine Ok.aload cx at_200 rfl 202 rfl ?_
  refine Ok.iloadN cx at_202 rfl 203 rfl ?_
  refine Ok.iloadN cx at_203 rfl 204 rfl ?_
  refine Ok.iloadN cx at_204 rfl 205 rfl ?_
  refine Ok.bipush cx at_205 207 rfl (7 : Int32) rfl ?_
  refine Ok.callStatic cx [(.ref q), (.ref m), (.int t6), (.int p1), (.int p2), (.int (7 : Int32))] [] rfl (own_w hw 19 rfl) (own_w hw 20 rfl) (own_w hw 21 rfl) (own_w hw 22 rfl) at_207 (by decide) pd_6 rfl rfl  (rm_4 W.l Z a0 hw q r w m t6 p1 p2 (7 : Int32) m0_180 m1_180 m2_180 m3_180 N L180 h180_ n0 Z0 G A_m hR nqr nqw nrw zq zr zw hN nqm nrm nwm zm hp hN1 hN3) (by decide) 0 rfl (by decide) (by decide) (by decide) 210 rfl fun v207 h207_ q207 => ?_
  obtain ⟨Z0, r207, L207, rfl, x207, G, m0_207, m1_207, m2_207, m3_207, A_m, hR⟩ := q207
  show Ok _ _ _ _ _ _ _ _ _ [(.int r207)]
  refine Ok.if_eq cx at_210 217 213 (by decide) rfl (fun c210 => by exfalso; omega) (fun c210 => ?_)
  refine Ok.iconst cx at_213 214 rfl (1 : Int32) rfl ?_
  refine Ok.goto cx at_214 218 (by decide) ?_
  refine Ok.istore cx at_218 rfl (One.val rfl) [.val (.int p0), .val (.int p1), .val (.int p2), .val (.int t6), .val (.ref q), .val (.ref m), .val (.int (1 : Int32))] rfl 220 rfl ?_
  refine Ok.iload cx at_220 rfl 222 rfl ?_
  refine Ok.if_eq cx at_222 249 225 (by decide) rfl (fun c222 => by exfalso; omega) (fun c222 => ?_)
  refine Ok.aload cx at_225 rfl 227 rfl ?_
  refine Ok.callVirtual cx (a := q) [] [] rfl (own_w hw 46 rfl) (own_w hw 47 rfl) (own_w hw 49 rfl) (own_w hw 48 rfl) (own_w hw 2 rfl) (own_w hw 50 rfl) at_227 (by decide) pd_7 rfl rfl G.exa (rm_10 W.l Z a0 hw q r w N L207 h207_ n0 Z0 G) (by decide) 0 rfl (by decide) (by decide) (by decide) 230 rfl fun v227 h227_ q227 => ?_
  obtain ⟨rfl, r227, rfl, x227⟩ := q227
  have h3 := hR.1
  show Ok _ _ _ _ _ _ _ _ _ [(.int r227)]
  refine Ok.aload cx at_230 rfl 232 rfl ?_
  refine Ok.iconst cx at_232 233 rfl (3 : Int32) rfl ?_
  refine Ok.iaload cx at_233 A_m (3) rfl (v := (.int m3_207)) rfl 234 rfl ?_
  refine Ok.if_ne cx at_234 241 237 (by decide) rfl (fun c234 => ?_) (fun c234 => ?_)
  · skip
    refine Ok.iconst cx at_241 242 rfl (0 : Int32) rfl ?_
    refine Ok.icmp_ne cx at_242 249 245 (by decide) rfl (fun c242 => by exfalso; omega) (fun c242 => ?_)
    refine Ok.iconst cx at_245 246 rfl (1 : Int32) rfl ?_
    refine Ok.goto cx at_246 250 (by decide) ?_
    exact Ok.zreturn cx at_250 (by decide) (by decide) rfl
  · skip
    refine Ok.iconst cx at_237 238 rfl (1 : Int32) rfl ?_
    refine Ok.goto cx at_238 242 (by decide) ?_
    refine Ok.icmp_ne cx at_242 249 245 (by decide) rfl (fun c242 => by exfalso; omega) (fun c242 => ?_)
    refine Ok.iconst cx at_245 246 rfl (1 : Int32) rfl ?_
    refine Ok.goto cx at_246 250 (by decide) ?_
    exact Ok.zreturn cx at_250 (by decide) (by decide) rfl
set_option maxRecDepth 65536 in
set_option maxHeartbeats 40000000 in
theorem comes_1 {Post : Tables → Env → Array Value → State → Outcome → State → Prop} (hpost : ∀ tb e args s v u, (limb_1_1.after args s (.returned v) u = true ∧ limb_1_2.after args s (.returned v) u = true ∧ True) → FrameEnd s (.returned v) u (Jvm.fieldLocs frame_1_writes args s ++ Jvm.arrayLocs frame_1_arrays args s ++ Jvm.staticLocs frame_1_statics s) 16 128 → Post tb e args s (.returned v) u) :
    ArmFor flags0 classFile x code maxLocals ret World_1 tables_1 room_1 Calls_1 rest_1 Pre_1 Post := by
  intro l hfl _ _ p e ha hc hk s m args below hf hA hF happ hP
  obtain ⟨hcalls, hrest, hpre⟩ := hP
  obtain ⟨-, -, -, hnamed, -, -, -, hat⟩ := (Spec.applies_iff hf).mp happ
  obtain ⟨hg, hn⟩ := and_e (Cond.before_iff.mp (show (Jvm.Cond.and given_1 narrow_1).before args s = true from hpre))
  obtain ⟨hcount, g0⟩ := and_e hg
  obtain ⟨b0, g1⟩ := and_e g0
  obtain ⟨b1, g2⟩ := and_e g1
  have b2 := g2
  obtain ⟨w0, w1, w2, rfl⟩ : ∃ w0 w1 w2 : Value, args = #[w0, w1, w2] := by
    have hs : args.size = 3 := by simpa [Cond.value, given_1] using hcount
    obtain ⟨L⟩ := args
    match L, hs with
    | [w0, w1, w2], _ => exact ⟨w0, w1, w2, rfl⟩
  have hw := fun d (hd : d ∈ tables_1) => atoms_spec (ws := Jvm.Cond.code x code maxLocals ret :: tables_1) hat d (List.mem_cons_of_mem _ hd)
  obtain ⟨i0, q0⟩ := is_v b0
  obtain rfl : w0 = (.int i0) := Option.some.inj q0
  obtain ⟨i1, q1⟩ := is_v b1
  obtain rfl : w1 = (.int i1) := Option.some.inj q1
  obtain ⟨i2, q2⟩ := is_v b2
  obtain rfl : w2 = (.int i2) := Option.some.inj q2
  obtain ⟨n, o, h1, h2, h3, _, L, rfl, ⟨rfl, N⟩, hq⟩ := rm_0 l s _ hw i0 i1 i2 s.heap s.heap.size (Nat.le_refl _) p e ha hc hk s m _ below hf ((Spec.applies_iff_loose hf).mp happ).1 ⟨rfl, State.Warmed39.refl s, rfl⟩ trivial
  refine ⟨n, _, h1, h2, h3, hpost _ _ _ _ _ _ ⟨Cond.after_iff.mpr rfl, Cond.after_iff.mpr (eq_i res_at (Term.int_eval (1)) rfl), trivial⟩ ⟨hq.1, hq.2.1, (hq.2.2.sift fun y hy => Or.inr (N y hy)).mono (by decide) (by decide)⟩⟩
theorem main_1_1 : Claimed_1_1 := comes_1 fun _ _ _ _ _ _ h hF => ⟨h.1, hF⟩
theorem main_1_2 : Claimed_1_2 := comes_1 fun _ _ _ _ _ _ h hF => ⟨h.2.1, hF⟩
end Jvm.Pilot.@@N@@
namespace Jvm.Pilot.@@N@@
open Jvm Jvm.ClassFile Sem Op Lib Jvm.Free Jvm.Stand Jvm.Pilot.@@N@@.Jvm.D
/-! MADE BY PROGRAM (witnessworld.py) out of the Statement's table words and the real class files: 12 classes; the members and pool entries that the words name. The judged class is class 1, her method 1. -/
namespace start1
open Jvm.ClassFile
def u (s : String) : CpInfo := .utf8 (stringToUtf16 s)
/-- a pool by its gaps: so many unusable entries, then the entry; so many at the end -/
def gap : Nat → List CpInfo → List CpInfo
  | 0, r => r
  | n + 1, r => .unusable :: gap n r
def poolList (es : List (Nat × CpInfo)) (last : Nat) : List CpInfo := es.foldr (fun e r => gap e.1 (e.2 :: r)) (gap last [])
def pool (es : List (Nat × CpInfo)) (last : Nat) : Array CpInfo := ⟨poolList es last⟩
def fileOf (pool : Array CpInfo) (this : Nat) (attrs : Array Attribute := #[]) (ms : Array MethodInfo := #[]) (fl : Nat := 33) (sup : Nat := 0) (ifs : Array Nat := #[]) (fds : Array FieldInfo := #[]) : ClassFile where
  minorVersion := 0
  majorVersion := 65
  constantPool := pool
  accessFlags := fl
  thisClass := this
  superClass := sup
  interfaces := ifs
  fields := fds
  methods := ms
  attributes := attrs
def plain (name : String) (sup : Option ClassId) : Class where
  name := name
  kind := .ordinary
  loader := none
  accessFlags := 33
  super := sup
  interfaces := #[]
  cf := none
  fields := #[]
  methods := #[]
  instanceTypes := #[]
  staticTypes := #[]
  resolved := #[]
  callSites := []
  init := .initialized
  statics := none
  mirror := none

def pool0 : Array CpInfo := pool [(5, u "<init>"), (0, u "()V"), (1, .class_ 10), (1, u "java/lang/Object")] 113

def k0c0 : Code := { maxStack := 0, maxLocals := 1, code := object_method_1_code, exceptionTable := #[], attributes := #[] }
def k0m0 : Method := { name := "<init>", desc := "()V", sig := { parameters := [], returnType := none }, accessFlags := 1, code := some k0c0 }
/-- java/lang/Object -/
def k0 : Class := { plain "java/lang/Object" none with
  accessFlags := 33
  interfaces := #[]
  cf := some (fileOf pool0 8 #[] #[{ accessFlags := 1, nameIndex := 5, descriptorIndex := 6, attributes := #[] }] 33 0 #[] #[])
  fields := #[]
  methods := #[k0m0]
  instanceTypes := #[]
  staticTypes := #[]
  resolved := Array.replicate 124 none
  statics := none }

def pool1 : Array CpInfo := pool [(2, .class_ 4), (1, u "java/lang/Object"), (0, u "<init>"), (0, u "()V"), (0, .class_ 8), (0, u "com/example/leeway/leeway/solver/VariableQueue"), (0, .methodref 7 10), (0, .nameAndType 5 11), (0, u "(I)V"), (0, .methodref 13 14), (0, .class_ 15), (0, .nameAndType 16 17), (0, u "com/example/leeway/leeway/solver/VariableQueuePollPinLaw"), (0, u "step"), (0, u "(Lcom/example/leeway/leeway/solver/VariableQueue;[IIIII)Z"), (0, .methodref 7 19), (0, .nameAndType 20 21), (0, u "isEmpty"), (0, u "()Z"), (0, .methodref 7 23), (0, .nameAndType 24 25), (0, u "poll"), (0, u "()I"), (0, .methodref 13 27), (0, .nameAndType 28 29), (0, u "mPoll"), (0, u "([I)I"), (0, .methodref 7 31), (0, .nameAndType 32 33), (0, u "add"), (0, u "(I)Z"), (0, .methodref 13 35), (0, .nameAndType 36 37), (0, u "mAdd"), (0, u "([II)Z"), (0, .methodref 13 39), (0, .nameAndType 40 37), (0, u "contains"), (2, u "law"), (0, u "(III)Z")] 5

def k1m0 : Method := { name := "<init>", desc := "()V", sig := { parameters := [], returnType := none }, accessFlags := 1, code := none }
def k1c1 : Code := { maxStack := 6, maxLocals := 7, code := code, exceptionTable := #[], attributes := #[] }
def k1m1 : Method := { name := "law", desc := "(III)Z", sig := { parameters := [.int, .int, .int], returnType := some .boolean }, accessFlags := 9, code := some k1c1 }
def k1c2 : Code := { maxStack := 3, maxLocals := 10, code := method_3_code, exceptionTable := #[], attributes := #[] }
def k1m2 : Method := { name := "step", desc := "(Lcom/example/leeway/leeway/solver/VariableQueue;[IIIII)Z", sig := { parameters := [(.object "com/example/leeway/leeway/solver/VariableQueue"), (.array .int), .int, .int, .int, .int], returnType := some .boolean }, accessFlags := 10, code := some k1c2 }
def k1c3 : Code := { maxStack := 2, maxLocals := 2, code := method_4_code, exceptionTable := #[], attributes := #[] }
def k1m3 : Method := { name := "contains", desc := "([II)Z", sig := { parameters := [(.array .int), .int], returnType := some .boolean }, accessFlags := 10, code := some k1c3 }
def k1c4 : Code := { maxStack := 4, maxLocals := 2, code := method_5_code, exceptionTable := #[], attributes := #[] }
def k1m4 : Method := { name := "mAdd", desc := "([II)Z", sig := { parameters := [(.array .int), .int], returnType := some .boolean }, accessFlags := 10, code := some k1c4 }
def k1c5 : Code := { maxStack := 4, maxLocals := 2, code := method_6_code, exceptionTable := #[], attributes := #[] }
def k1m5 : Method := { name := "mPoll", desc := "([I)I", sig := { parameters := [(.array .int)], returnType := some .int }, accessFlags := 10, code := some k1c5 }
/-- com/example/leeway/leeway/solver/VariableQueuePollPinLaw -/
def k1 : Class := { plain "com/example/leeway/leeway/solver/VariableQueuePollPinLaw" (some 0) with
  accessFlags := 49
  interfaces := #[]
  cf := some (fileOf pool1 13 #[] #[{ accessFlags := 1, nameIndex := 5, descriptorIndex := 6, attributes := #[] }, { accessFlags := 9, nameIndex := 43, descriptorIndex := 44, attributes := #[] }, { accessFlags := 10, nameIndex := 16, descriptorIndex := 17, attributes := #[] }, { accessFlags := 10, nameIndex := 40, descriptorIndex := 37, attributes := #[] }, { accessFlags := 10, nameIndex := 36, descriptorIndex := 37, attributes := #[] }, { accessFlags := 10, nameIndex := 28, descriptorIndex := 29, attributes := #[] }] 49 2 #[] #[])
  fields := #[]
  methods := #[k1m0, k1m1, k1m2, k1m3, k1m4, k1m5]
  instanceTypes := #[]
  staticTypes := #[]
  resolved := Array.replicate 50 none
  statics := none }

def pool2 : Array CpInfo := pool [(1, .methodref 2 3), (0, .class_ 4), (0, .nameAndType 5 6), (0, u "java/lang/Object"), (0, u "<init>"), (0, u "()V"), (0, .methodref 8 9), (0, .class_ 10), (0, .nameAndType 11 12), (0, u "java/lang/Math"), (0, u "max"), (0, u "(II)I"), (0, .fieldref 14 15), (0, .class_ 16), (0, .nameAndType 17 18), (0, u "com/example/leeway/leeway/solver/VariableQueue"), (0, u "ring"), (0, u "[I"), (0, .fieldref 14 20), (0, .nameAndType 21 22), (0, u "waiting"), (0, u "[Z"), (0, .fieldref 14 24), (0, .nameAndType 25 26), (0, u "head"), (0, u "I"), (0, .fieldref 14 28), (0, .nameAndType 29 26), (0, u "count"), (2, u "poll"), (0, u "()I"), (0, u "(I)V"), (2, u "add"), (0, u "(I)Z"), (2, u "isEmpty"), (0, u "()Z")] 3

def k2c0 : Code := { maxStack := 3, maxLocals := 2, code := prog_77_method_1_code, exceptionTable := #[], attributes := #[] }
def k2m0 : Method := { name := "<init>", desc := "(I)V", sig := { parameters := [.int], returnType := none }, accessFlags := 0, code := some k2c0 }
def k2c1 : Code := { maxStack := 3, maxLocals := 4, code := prog_77_method_2_code, exceptionTable := #[], attributes := #[] }
def k2m1 : Method := { name := "add", desc := "(I)Z", sig := { parameters := [.int], returnType := some .boolean }, accessFlags := 0, code := some k2c1 }
def k2c2 : Code := { maxStack := 1, maxLocals := 1, code := prog_77_method_3_code, exceptionTable := #[], attributes := #[] }
def k2m2 : Method := { name := "isEmpty", desc := "()Z", sig := { parameters := [], returnType := some .boolean }, accessFlags := 0, code := some k2c2 }
def k2c3 : Code := { maxStack := 3, maxLocals := 2, code := prog_77_method_4_code, exceptionTable := #[], attributes := #[] }
def k2m3 : Method := { name := "poll", desc := "()I", sig := { parameters := [], returnType := some .int }, accessFlags := 0, code := some k2c3 }
/-- com/example/leeway/leeway/solver/VariableQueue -/
def k2 : Class := { plain "com/example/leeway/leeway/solver/VariableQueue" (some 0) with
  accessFlags := 48
  interfaces := #[]
  cf := some (fileOf pool2 14 #[] #[{ accessFlags := 0, nameIndex := 5, descriptorIndex := 34, attributes := #[] }, { accessFlags := 0, nameIndex := 37, descriptorIndex := 38, attributes := #[] }, { accessFlags := 0, nameIndex := 41, descriptorIndex := 42, attributes := #[] }, { accessFlags := 0, nameIndex := 32, descriptorIndex := 33, attributes := #[] }] 48 2 #[] #[{ accessFlags := 18, nameIndex := 17, descriptorIndex := 18, attributes := #[] }, { accessFlags := 18, nameIndex := 21, descriptorIndex := 22, attributes := #[] }, { accessFlags := 2, nameIndex := 25, descriptorIndex := 26, attributes := #[] }, { accessFlags := 2, nameIndex := 29, descriptorIndex := 26, attributes := #[] }])
  fields := #[{ name := "ring", type := (.array .int), accessFlags := 18, slot := 0, constantValue := 0 }, { name := "waiting", type := (.array .boolean), accessFlags := 18, slot := 1, constantValue := 0 }, { name := "head", type := .int, accessFlags := 2, slot := 2, constantValue := 0 }, { name := "count", type := .int, accessFlags := 2, slot := 3, constantValue := 0 }]
  methods := #[k2m0, k2m1, k2m2, k2m3]
  instanceTypes := #[(.array .int), (.array .boolean), .int, .int]
  staticTypes := #[]
  resolved := Array.replicate 46 none
  statics := none }

def pool3 : Array CpInfo := pool [(1, .class_ 2), (0, u "java/lang/Math"), (1, .class_ 6), (1, u "java/lang/Object"), (0, u "<init>"), (0, u "()V"), (89, .class_ 100), (1, u "java/lang/Math$RandomNumberGeneratorHolder"), (71, u "negativeZeroFloatBits"), (0, u "J"), (2, u "negativeZeroDoubleBits"), (21, u "max"), (46, u "$assertionsDisabled"), (0, u "Z"), (88, u "(II)I"), (2, u "twoToTheDoubleScaleDown"), (0, u "D"), (4, u "twoToTheDoubleScaleUp"), (9, u "E"), (3, u "PI"), (2, u "TAU"), (2, u "DEGREES_TO_RADIANS"), (0, u "RADIANS_TO_DEGREES")] 94

def k3m0 : Method := { name := "<init>", desc := "()V", sig := { parameters := [], returnType := none }, accessFlags := 2, code := none }
def k3c1 : Code := { maxStack := 2, maxLocals := 2, code := jdk_29_method_65_code, exceptionTable := #[], attributes := #[] }
def k3m1 : Method := { name := "max", desc := "(II)I", sig := { parameters := [.int, .int], returnType := some .int }, accessFlags := 9, code := some k3c1 }
/-- java/lang/Math -/
def k3 : Class := { plain "java/lang/Math" (some 0) with
  accessFlags := 49
  interfaces := #[]
  cf := some (fileOf pool3 1 #[.nestMembers #[98]] #[{ accessFlags := 2, nameIndex := 7, descriptorIndex := 8, attributes := #[] }, { accessFlags := 9, nameIndex := 198, descriptorIndex := 335, attributes := #[] }] 49 4 #[] #[{ accessFlags := 25, nameIndex := 354, descriptorIndex := 339, attributes := #[] }, { accessFlags := 25, nameIndex := 358, descriptorIndex := 339, attributes := #[] }, { accessFlags := 25, nameIndex := 361, descriptorIndex := 339, attributes := #[] }, { accessFlags := 26, nameIndex := 364, descriptorIndex := 339, attributes := #[] }, { accessFlags := 26, nameIndex := 365, descriptorIndex := 339, attributes := #[] }, { accessFlags := 26, nameIndex := 172, descriptorIndex := 173, attributes := #[] }, { accessFlags := 26, nameIndex := 176, descriptorIndex := 173, attributes := #[] }, { accessFlags := 8, nameIndex := 344, descriptorIndex := 339, attributes := #[] }, { accessFlags := 8, nameIndex := 338, descriptorIndex := 339, attributes := #[] }, { accessFlags := 4120, nameIndex := 245, descriptorIndex := 246, attributes := #[] }])
  fields := #[{ name := "E", type := .double, accessFlags := 25, slot := 0, constantValue := 0 }, { name := "PI", type := .double, accessFlags := 25, slot := 1, constantValue := 0 }, { name := "TAU", type := .double, accessFlags := 25, slot := 2, constantValue := 0 }, { name := "DEGREES_TO_RADIANS", type := .double, accessFlags := 26, slot := 3, constantValue := 0 }, { name := "RADIANS_TO_DEGREES", type := .double, accessFlags := 26, slot := 4, constantValue := 0 }, { name := "negativeZeroFloatBits", type := .long, accessFlags := 26, slot := 5, constantValue := 0 }, { name := "negativeZeroDoubleBits", type := .long, accessFlags := 26, slot := 6, constantValue := 0 }, { name := "twoToTheDoubleScaleUp", type := .double, accessFlags := 8, slot := 7, constantValue := 0 }, { name := "twoToTheDoubleScaleDown", type := .double, accessFlags := 8, slot := 8, constantValue := 0 }, { name := "$assertionsDisabled", type := .boolean, accessFlags := 4120, slot := 9, constantValue := 0 }]
  methods := #[k3m0, k3m1]
  instanceTypes := #[]
  staticTypes := #[.double, .double, .double, .double, .double, .long, .long, .double, .double, .boolean]
  resolved := Array.replicate 460 none
  statics := none }

def pool4 : Array CpInfo := pool [(1, u "java/lang/Cloneable"), (0, .class_ 1), (0, u "java/lang/Object"), (0, .class_ 3)] 3

/-- java/lang/Cloneable -/
def k4 : Class := { plain "java/lang/Cloneable" (some 0) with
  accessFlags := 1537
  interfaces := #[]
  cf := some (fileOf pool4 2 #[] #[] 1537 4 #[] #[])
  fields := #[]
  methods := #[]
  instanceTypes := #[]
  staticTypes := #[]
  resolved := Array.replicate 8 none
  statics := none }

def pool5 : Array CpInfo := pool [(1, u "java/io/Serializable"), (0, .class_ 1), (0, u "java/lang/Object"), (0, .class_ 3)] 3

/-- java/io/Serializable -/
def k5 : Class := { plain "java/io/Serializable" (some 0) with
  accessFlags := 1537
  interfaces := #[]
  cf := some (fileOf pool5 2 #[] #[] 1537 4 #[] #[])
  fields := #[]
  methods := #[]
  instanceTypes := #[]
  staticTypes := #[]
  resolved := Array.replicate 8 none
  statics := none }

/-- the primitive boolean -/
def k6 : Class := { plain "boolean" none with kind := .primitive 'Z', accessFlags := 0x411 }
/-- [Z -/
def k7 : Class := { plain "[Z" (some 0) with kind := .array 6 .boolean, interfaces := #[4, 5], accessFlags := 1041 }

/-- the primitive byte -/
def k8 : Class := { plain "byte" none with kind := .primitive 'B', accessFlags := 0x411 }
/-- [B -/
def k9 : Class := { plain "[B" (some 0) with kind := .array 8 .byte, interfaces := #[4, 5], accessFlags := 1041 }

/-- the primitive int -/
def k10 : Class := { plain "int" none with kind := .primitive 'I', accessFlags := 0x411 }
/-- [I -/
def k11 : Class := { plain "[I" (some 0) with kind := .array 10 .int, interfaces := #[4, 5], accessFlags := 1041 }

def heap : Heap := #[]
def classes : Array Class := #[k0, k1, k2, k3, k4, k5, k6, k7, k8, k9, k10, k11]
def interned : List (Array UInt16 × Addr) := []
def slotsUsed : Nat := 0
def theMethod : MethodId := ⟨1, 1⟩
def args0 : Array Value := #[.int 5, .int 9, .int 7]
def aboutOver (below : List Frame) : State where
  vm := { classes := classes, interned := interned.toArray }
  heap := heap
  slotsUsed := slotsUsed
  threads := #[{ frames := .invoking theMethod args0 :: below }]
def below0 : List Frame := [.native { method := ⟨0, 0⟩, args := #[] }]
def about1 : State := aboutOver below0
def p0 : Program := .bare "" "" ""
def e0 : Env := launch0.env 0 0 0
theorem w_frames : about1.frames = Frame.invoking theMethod args0 :: below0 := rfl
set_option maxRecDepth 65536 in
theorem w_args : argsFit about1.vm theMethod args0 = true := by decide +kernel
set_option maxRecDepth 65536 in
theorem w_heap : heapFits about1 = true := by decide +kernel
set_option maxRecDepth 65536 in
theorem w_runnable : about1.curStatus? = some .runnable := by decide +kernel
set_option maxRecDepth 65536 in
theorem w_alone : about1.alone = true := by decide +kernel
set_option maxRecDepth 65536 in
theorem w_named : about1.methodNamed? x = some theMethod := by decide +kernel
set_option maxRecDepth 65536 in
theorem w_hears : about1.hears theMethod below0 = true := by decide +kernel
set_option maxRecDepth 65536 in
theorem w_ripe : about1.ripe theMethod args0 below0 = true := by decide +kernel
theorem w_running : about1.status = .running := rfl
set_option maxRecDepth 65536 in
theorem w_room : about1.hasRoom e0.platform room_1 = true :=
  launch0.hasRoom_least _ room_1 (by decide +kernel) (by decide +kernel) (by decide +kernel) (by decide +kernel) (by decide +kernel) (by decide +kernel)
theorem allAtoms_all (ts : List Jvm.Cond) (a : Array Jvm.Value) (st : Jvm.State) : (allAtoms ts).before a st = ts.all (fun c => c.before a st) := by
  induction ts with
  | nil => rfl
  | cons c t ih =>
    show (Jvm.Cond.and c (allAtoms t)).before a st = _
    rw [Jvm.Cond.before_and, ih, List.all_cons]
def words1 : List Jvm.Cond := Jvm.Cond.code x code maxLocals ret :: tables_1
/-- a 'code' word, met by the world's own term for the bytes: nothing is compared byte by byte -/
theorem code_word {y : MethodName} {bytes : ByteArray} {mx : Nat} {rt : Option FieldType} {a : Array Value} {s : State} {m : MethodId} {meth : Method} {c : Code} (h1 : s.methodNamed? y = some m) (h2 : s.vm.method? m = some meth) (h3 : meth.code = some c) (h4 : c.code = bytes)
    (h5 : (c.maxLocals == mx && c.exceptionTable.isEmpty && decide (c.maxStack ≤ mostOperands) && decide (meth.sig.returnType = rt) && !meth.locks && decide (parseMethodDescriptor y.desc = some meth.sig)) = true) : (Jvm.Cond.code y bytes mx rt).before a s = true := by
  simp only [Bool.and_eq_true, beq_iff_eq, Bool.not_eq_true', decide_eq_true_eq] at h5
  obtain ⟨⟨⟨⟨⟨g1, g2⟩, g3⟩, g4⟩, g5⟩, g6⟩ := h5
  simp [Cond.before, Cond.holds, Cond.value, h1, h2, h3, h4, g1, g2, g3, g4, g5, g6]
def isCode : Jvm.Cond → Bool
  | .code _ _ _ _ => true
  | _ => false
theorem all_split {L : List Jvm.Cond} {P : Jvm.Cond → Bool} (h1 : L.all (fun c => isCode c || P c) = true) (h2 : ∀ c ∈ L.filter isCode, P c = true) : L.all P = true := by
  refine List.all_eq_true.mpr fun c hc => ?_
  have h := List.all_eq_true.mp h1 c hc
  rcases Bool.eq_false_or_eq_true (isCode c) with hi | hi
  · exact h2 c (List.mem_filter.mpr ⟨hc, hi⟩)
  · simpa [hi] using h
set_option maxRecDepth 65536 in
theorem w_c0 : (Jvm.Cond.code x code maxLocals ret).before args0 about1 = true := code_word (m := ⟨1, 1⟩) (meth := k1m1) (c := k1c1) (by decide +kernel) rfl rfl rfl (by decide +kernel)
set_option maxRecDepth 65536 in
theorem w_c1 : (Jvm.Cond.code ({ cls := "com/example/leeway/leeway/solver/VariableQueue", name := "<init>", desc := "(I)V" } : Jvm.MethodName) prog_77_method_1_code (2 : Nat) (Option.none : Option Jvm.ClassFile.FieldType)).before args0 about1 = true := code_word (m := ⟨2, 0⟩) (meth := k2m0) (c := k2c0) (by decide +kernel) rfl rfl rfl (by decide +kernel)
set_option maxRecDepth 65536 in
theorem w_c2 : (Jvm.Cond.code ({ cls := "java/lang/Object", name := "<init>", desc := "()V" } : Jvm.MethodName) object_method_1_code (1 : Nat) (Option.none : Option Jvm.ClassFile.FieldType)).before args0 about1 = true := code_word (m := ⟨0, 0⟩) (meth := k0m0) (c := k0c0) (by decide +kernel) rfl rfl rfl (by decide +kernel)
set_option maxRecDepth 65536 in
theorem w_c3 : (Jvm.Cond.code ({ cls := "java/lang/Math", name := "max", desc := "(II)I" } : Jvm.MethodName) jdk_29_method_65_code (2 : Nat) (Option.some Jvm.ClassFile.FieldType.int)).before args0 about1 = true := code_word (m := ⟨3, 1⟩) (meth := k3m1) (c := k3c1) (by decide +kernel) rfl rfl rfl (by decide +kernel)
set_option maxRecDepth 65536 in
theorem w_c4 : (Jvm.Cond.code ({ cls := "com/example/leeway/leeway/solver/VariableQueuePollPinLaw", name := "step", desc := "(Lcom/example/leeway/leeway/solver/VariableQueue;[IIIII)Z" } : Jvm.MethodName) method_3_code (10 : Nat) (Option.some Jvm.ClassFile.FieldType.boolean)).before args0 about1 = true := code_word (m := ⟨1, 2⟩) (meth := k1m2) (c := k1c2) (by decide +kernel) rfl rfl rfl (by decide +kernel)
set_option maxRecDepth 65536 in
theorem w_c5 : (Jvm.Cond.code ({ cls := "com/example/leeway/leeway/solver/VariableQueue", name := "add", desc := "(I)Z" } : Jvm.MethodName) prog_77_method_2_code (4 : Nat) (Option.some Jvm.ClassFile.FieldType.boolean)).before args0 about1 = true := code_word (m := ⟨2, 1⟩) (meth := k2m1) (c := k2c1) (by decide +kernel) rfl rfl rfl (by decide +kernel)
set_option maxRecDepth 65536 in
theorem w_c6 : (Jvm.Cond.code ({ cls := "com/example/leeway/leeway/solver/VariableQueuePollPinLaw", name := "mAdd", desc := "([II)Z" } : Jvm.MethodName) method_5_code (2 : Nat) (Option.some Jvm.ClassFile.FieldType.boolean)).before args0 about1 = true := code_word (m := ⟨1, 4⟩) (meth := k1m4) (c := k1c4) (by decide +kernel) rfl rfl rfl (by decide +kernel)
set_option maxRecDepth 65536 in
theorem w_c7 : (Jvm.Cond.code ({ cls := "com/example/leeway/leeway/solver/VariableQueuePollPinLaw", name := "contains", desc := "([II)Z" } : Jvm.MethodName) method_4_code (2 : Nat) (Option.some Jvm.ClassFile.FieldType.boolean)).before args0 about1 = true := code_word (m := ⟨1, 3⟩) (meth := k1m3) (c := k1c3) (by decide +kernel) rfl rfl rfl (by decide +kernel)
set_option maxRecDepth 65536 in
theorem w_c8 : (Jvm.Cond.code ({ cls := "com/example/leeway/leeway/solver/VariableQueue", name := "poll", desc := "()I" } : Jvm.MethodName) prog_77_method_4_code (2 : Nat) (Option.some Jvm.ClassFile.FieldType.int)).before args0 about1 = true := code_word (m := ⟨2, 3⟩) (meth := k2m3) (c := k2c3) (by decide +kernel) rfl rfl rfl (by decide +kernel)
set_option maxRecDepth 65536 in
theorem w_c9 : (Jvm.Cond.code ({ cls := "com/example/leeway/leeway/solver/VariableQueuePollPinLaw", name := "mPoll", desc := "([I)I" } : Jvm.MethodName) method_6_code (2 : Nat) (Option.some Jvm.ClassFile.FieldType.int)).before args0 about1 = true := code_word (m := ⟨1, 5⟩) (meth := k1m5) (c := k1c5) (by decide +kernel) rfl rfl rfl (by decide +kernel)
set_option maxRecDepth 65536 in
theorem w_c10 : (Jvm.Cond.code ({ cls := "com/example/leeway/leeway/solver/VariableQueue", name := "isEmpty", desc := "()Z" } : Jvm.MethodName) prog_77_method_3_code (1 : Nat) (Option.some Jvm.ClassFile.FieldType.boolean)).before args0 about1 = true := code_word (m := ⟨2, 2⟩) (meth := k2m2) (c := k2c2) (by decide +kernel) rfl rfl rfl (by decide +kernel)
def codes1 : List Jvm.Cond := [Jvm.Cond.code x code maxLocals ret, Jvm.Cond.code ({ cls := "com/example/leeway/leeway/solver/VariableQueue", name := "<init>", desc := "(I)V" } : Jvm.MethodName) prog_77_method_1_code (2 : Nat) (Option.none : Option Jvm.ClassFile.FieldType), Jvm.Cond.code ({ cls := "java/lang/Object", name := "<init>", desc := "()V" } : Jvm.MethodName) object_method_1_code (1 : Nat) (Option.none : Option Jvm.ClassFile.FieldType), Jvm.Cond.code ({ cls := "java/lang/Math", name := "max", desc := "(II)I" } : Jvm.MethodName) jdk_29_method_65_code (2 : Nat) (Option.some Jvm.ClassFile.FieldType.int), Jvm.Cond.code ({ cls := "com/example/leeway/leeway/solver/VariableQueuePollPinLaw", name := "step", desc := "(Lcom/example/leeway/leeway/solver/VariableQueue;[IIIII)Z" } : Jvm.MethodName) method_3_code (10 : Nat) (Option.some Jvm.ClassFile.FieldType.boolean), Jvm.Cond.code ({ cls := "com/example/leeway/leeway/solver/VariableQueue", name := "add", desc := "(I)Z" } : Jvm.MethodName) prog_77_method_2_code (4 : Nat) (Option.some Jvm.ClassFile.FieldType.boolean), Jvm.Cond.code ({ cls := "com/example/leeway/leeway/solver/VariableQueuePollPinLaw", name := "mAdd", desc := "([II)Z" } : Jvm.MethodName) method_5_code (2 : Nat) (Option.some Jvm.ClassFile.FieldType.boolean), Jvm.Cond.code ({ cls := "com/example/leeway/leeway/solver/VariableQueuePollPinLaw", name := "contains", desc := "([II)Z" } : Jvm.MethodName) method_4_code (2 : Nat) (Option.some Jvm.ClassFile.FieldType.boolean), Jvm.Cond.code ({ cls := "com/example/leeway/leeway/solver/VariableQueue", name := "poll", desc := "()I" } : Jvm.MethodName) prog_77_method_4_code (2 : Nat) (Option.some Jvm.ClassFile.FieldType.int), Jvm.Cond.code ({ cls := "com/example/leeway/leeway/solver/VariableQueuePollPinLaw", name := "mPoll", desc := "([I)I" } : Jvm.MethodName) method_6_code (2 : Nat) (Option.some Jvm.ClassFile.FieldType.int), Jvm.Cond.code ({ cls := "com/example/leeway/leeway/solver/VariableQueue", name := "isEmpty", desc := "()Z" } : Jvm.MethodName) prog_77_method_3_code (1 : Nat) (Option.some Jvm.ClassFile.FieldType.boolean)]
set_option maxRecDepth 65536 in
theorem codes_eq : words1.filter isCode = codes1 := rfl
theorem w_codes : ∀ c ∈ words1.filter isCode, c.before args0 about1 = true := by
  rw [codes_eq]
  intro c hc
  simp only [codes1, List.mem_cons, List.not_mem_nil, or_false] at hc
  rcases hc with rfl | rfl | rfl | rfl | rfl | rfl | rfl | rfl | rfl | rfl | rfl
  · exact w_c0
  · exact w_c1
  · exact w_c2
  · exact w_c3
  · exact w_c4
  · exact w_c5
  · exact w_c6
  · exact w_c7
  · exact w_c8
  · exact w_c9
  · exact w_c10
set_option maxRecDepth 65536 in
theorem w_t1 : (words1.take 24).all (fun c => isCode c || c.before args0 about1) = true := by decide +kernel
set_option maxRecDepth 65536 in
theorem w_t2 : ((words1.drop 24).take 24).all (fun c => isCode c || c.before args0 about1) = true := by decide +kernel
set_option maxRecDepth 65536 in
theorem w_t3 : ((words1.drop 24).drop 24).all (fun c => isCode c || c.before args0 about1) = true := by decide +kernel
theorem w_tables : (allAtoms (Jvm.Cond.code x code maxLocals ret :: tables_1)).before args0 about1 = true := by
  rw [allAtoms_all]
  show words1.all (fun c => c.before args0 about1) = true
  refine all_split ?_ w_codes
  rw [← List.take_append_drop 24 words1, List.all_append, w_t1, ← List.take_append_drop 24 (words1.drop 24), List.all_append, w_t2, w_t3]
  rfl
set_option maxRecDepth 65536 in
theorem w_case : (Jvm.Cond.and given_1 narrow_1).before args0 about1 = true := by decide +kernel
theorem w_applies : (headSpec (Jvm.Cond.code x code maxLocals ret :: tables_1) room_1).applies x e0.platform about1 = true :=
  (Spec.applies_iff w_frames).mpr ⟨w_running, w_runnable, w_alone, w_named, w_hears, w_ripe, w_room, w_tables⟩
theorem atStart : AtStart classFile x code maxLocals ret World_1 tables_1 room_1 Calls_1 rest_1 Pre_1 launch0 p0 e0 about1 theMethod args0 below0 :=
  ⟨lists_1, trivial, launch0.admits_env _ _ _, launch0.least_env, fairChoices_fair.cas, fairChoices_fair.clock, w_frames, w_args, w_heap, w_applies, trivial, trivial, w_case⟩
end start1
theorem witness_1 : WitnessClaimed_1 := ⟨start1.p0, start1.e0, start1.about1, start1.theMethod, start1.args0, start1.below0, start1.atStart⟩
end Jvm.Pilot.@@N@@
