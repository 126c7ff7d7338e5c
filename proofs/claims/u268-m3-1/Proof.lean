import JvmDerived
import JvmDerived.Pilot.@@N@@Statement
import JvmDerived.Pilot.@@N@@Code
set_option linter.unusedVariables false
set_option linter.unusedSimpArgs false
namespace Jvm.Pilot.@@N@@
open Jvm Jvm.ClassFile Sem Op Lib Jvm.Free Jvm.Stand Jvm.LawKit Jvm.RoadKit Bundle Jvm.Pilot.@@N@@.Jvm.D
/-! own framework: `Ok` = 'from this frame over this heap the body comes to its end with Q'; one lemma an instruction -/
abbrev Wd : Type := Program × Launch × Env × State × MethodId × Array Value × List Frame × Method × Code
abbrev Wd.p (W : Wd) : Program := W.1
abbrev Wd.l (W : Wd) : Launch := W.2.1
abbrev Wd.e (W : Wd) : Env := W.2.2.1
abbrev Wd.s (W : Wd) : State := W.2.2.2.1
abbrev Wd.m (W : Wd) : MethodId := W.2.2.2.2.1
abbrev Wd.args (W : Wd) : Array Value := W.2.2.2.2.2.1
abbrev Wd.below (W : Wd) : List Frame := W.2.2.2.2.2.2.1
abbrev Wd.meth (W : Wd) : Method := W.2.2.2.2.2.2.2.1
abbrev Wd.c (W : Wd) : Code := W.2.2.2.2.2.2.2.2
def Ok (W : Wd) (R : Room) (n0 : Nat) (Q : Option Value → Heap → Prop) (h : Heap) (k n pc : Nat) (Ls : List Slot) (st : List Value) : Prop :=
  ∀ (T : State) (locs : List Loc), Stand W.p W.l W.e R W.s W.m W.args W.below W.meth W.c T locs k n → T.heap = h → Fr n0 locs →
    ∃ s₂ o, Steps W.p.tables W.e W.below (T.setTop (mkF W.m pc Ls.toArray st)) s₂ ∧ s₂.status = .running ∧ Ended s₂ W.below o ∧ ∃ v L, o = .returned v ∧ (Q v s₂.heap ∧ Fr n0 L) ∧ FrameEnd W.s o s₂ L R.cells R.slots
def Cx (W : Wd) (Z : State) (own nm : String) (bc : ByteArray) (maxL : Nat) (rt : Option FieldType) : Prop :=
  W.p.tables.exec = Jvm.exec ∧ Z.Warmed39 W.s.vm ∧ W.c.code = bc ∧ W.c.maxLocals = maxL ∧ W.s.vm.findClass own = some W.m.cls ∧ W.meth.sig.returnType = rt ∧ W.meth.locks = false ∧ W.meth.name = nm
section Own
variable {W : Wd} {R : Room} {n0 : Nat} {Q : Option Value → Heap → Prop} {h : Heap} {k n pc : Nat} {Ls : List Slot} {st : List Value} {Z : State} {own nm : String} {bc : ByteArray} {maxL : Nat} {rt : Option FieldType} {a0 : Array Value}
theorem Ok.back {pc' : Nat} {Ls' : List Slot} {st' : List Value} (g : Ok W R n0 Q h k n pc' Ls' st')
    (hs : ∀ (T : State) (locs : List Loc), Stand W.p W.l W.e R W.s W.m W.args W.below W.meth W.c T locs k n → T.heap = h → ∀ t, Steps W.p.tables W.e W.below (T.setTop (mkF W.m pc' Ls'.toArray st')) t → Steps W.p.tables W.e W.below (T.setTop (mkF W.m pc Ls.toArray st)) t) :
    Ok W R n0 Q h k n pc Ls st := fun T locs X e N => by
  obtain ⟨s₂, o, S, r⟩ := g T locs X e N
  exact ⟨s₂, o, hs T locs X e _ S, r⟩
/-- the same, the state (not its heap) moved -/
theorem Ok.move {pc' : Nat} {Ls' : List Slot} {st' : List Value} (g : Ok W R n0 Q h k n pc' Ls' st')
    (hs : ∀ (T : State) (locs : List Loc), Stand W.p W.l W.e R W.s W.m W.args W.below W.meth W.c T locs k n → T.heap = h → ∃ T', Stand W.p W.l W.e R W.s W.m W.args W.below W.meth W.c T' locs k n ∧ T'.heap = h ∧ ∀ t, Steps W.p.tables W.e W.below (T'.setTop (mkF W.m pc' Ls'.toArray st')) t → Steps W.p.tables W.e W.below (T.setTop (mkF W.m pc Ls.toArray st)) t) :
    Ok W R n0 Q h k n pc Ls st := fun T locs X e N => by
  obtain ⟨T', X', e', st⟩ := hs T locs X e
  obtain ⟨s₂, o, S, r⟩ := g T' locs X' e' N
  exact ⟨s₂, o, st _ S, r⟩
theorem own_get {Ls : List Slot} {i : Nat} {v : Slot} (hl : Ls[i]? = some v) : Ls.toArray[i]? = some v := by simpa using hl
theorem own_store {Ls Ls' : List Slot} {i : Nat} {v : Value} {o : Slot} (hold : Ls[i]? = some o) (ho : One o) (hv : v.category = 1) (hL : Ls.set i (.val v) = Ls') : storeLocals Ls.toArray i v = some Ls'.toArray := by
  rw [XS.store1 (own_get hold) ho hv, ← hL]; simp

theorem Ok.iload (C : Cx W Z own nm bc maxL rt) {i : Nat} {v : Int32} (hd : decode bc pc = .ok (.iload i, 2)) (hl : Ls[i]? = some (.val (.int v))) (q : Nat) (hq : pc + 2 = q) (g : Ok W R n0 Q h k n q Ls (.int v :: st)) : Ok W R n0 Q h k n pc Ls st := by
  subst hq
  exact g.back fun T locs X e t s => XS.iload X.here C.1 rfl (hb C.2.2.1 hd) (own_get hl) s
theorem Ok.iloadN (C : Cx W Z own nm bc maxL rt) {i : Fin 4} {v : Int32} (hd : decode bc pc = .ok (.iload_n i, 1)) (hl : Ls[i.val]? = some (.val (.int v))) (q : Nat) (hq : pc + 1 = q) (g : Ok W R n0 Q h k n q Ls (.int v :: st)) : Ok W R n0 Q h k n pc Ls st := by
  subst hq
  exact g.back fun T locs X e t s => XS.iloadN X.here C.1 rfl (hb C.2.2.1 hd) (own_get hl) s
theorem Ok.lload (C : Cx W Z own nm bc maxL rt) {i : Nat} {v : Int64} (hd : decode bc pc = .ok (.lload i, 2)) (hl : Ls[i]? = some (.val (.long v))) (q : Nat) (hq : pc + 2 = q) (g : Ok W R n0 Q h k n q Ls (.long v :: st)) : Ok W R n0 Q h k n pc Ls st := by
  subst hq
  exact g.back fun T locs X e t s => XS.lload X.here C.1 rfl (hb C.2.2.1 hd) (own_get hl) s
theorem Ok.lloadN (C : Cx W Z own nm bc maxL rt) {i : Fin 4} {v : Int64} (hd : decode bc pc = .ok (.lload_n i, 1)) (hl : Ls[i.val]? = some (.val (.long v))) (q : Nat) (hq : pc + 1 = q) (g : Ok W R n0 Q h k n q Ls (.long v :: st)) : Ok W R n0 Q h k n pc Ls st := by
  subst hq
  exact g.back fun T locs X e t s => XS.lloadN X.here C.1 rfl (hb C.2.2.1 hd) (own_get hl) s
theorem Ok.aload (C : Cx W Z own nm bc maxL rt) {i : Nat} {v : Addr} (hd : decode bc pc = .ok (.aload i, 2)) (hl : Ls[i]? = some (.val (.ref v))) (q : Nat) (hq : pc + 2 = q) (g : Ok W R n0 Q h k n q Ls (.ref v :: st)) : Ok W R n0 Q h k n pc Ls st := by
  subst hq
  exact g.back fun T locs X e t s => XS.aload X.here C.1 rfl (hb C.2.2.1 hd) (own_get hl) rfl s
theorem Ok.aloadN (C : Cx W Z own nm bc maxL rt) {i : Fin 4} {v : Addr} (hd : decode bc pc = .ok (.aload_n i, 1)) (hl : Ls[i.val]? = some (.val (.ref v))) (q : Nat) (hq : pc + 1 = q) (g : Ok W R n0 Q h k n q Ls (.ref v :: st)) : Ok W R n0 Q h k n pc Ls st := by
  subst hq
  exact g.back fun T locs X e t s => XS.aloadN X.here C.1 rfl (hb C.2.2.1 hd) (own_get hl) rfl s
theorem Ok.istore (C : Cx W Z own nm bc maxL rt) {i : Nat} {x : Int32} {o : Slot} (hd : decode bc pc = .ok (.istore i, 2)) (hold : Ls[i]? = some o) (ho : One o) (Ls' : List Slot) (hL : Ls.set i (.val (.int x)) = Ls') (q : Nat) (hq : pc + 2 = q) (g : Ok W R n0 Q h k n q Ls' st) : Ok W R n0 Q h k n pc Ls (.int x :: st) := by
  subst hq
  exact g.back fun T locs X e t s => XS.istore X.here C.1 rfl (hb C.2.2.1 hd) rfl (own_store hold ho rfl hL) s
theorem Ok.istoreN (C : Cx W Z own nm bc maxL rt) {i : Fin 4} {x : Int32} {o : Slot} (hd : decode bc pc = .ok (.istore_n i, 1)) (hold : Ls[i.val]? = some o) (ho : One o) (Ls' : List Slot) (hL : Ls.set i.val (.val (.int x)) = Ls') (q : Nat) (hq : pc + 1 = q) (g : Ok W R n0 Q h k n q Ls' st) : Ok W R n0 Q h k n pc Ls (.int x :: st) := by
  subst hq
  exact g.back fun T locs X e t s => XS.istoreN X.here C.1 rfl (hb C.2.2.1 hd) rfl (own_store hold ho rfl hL) s
theorem Ok.astore (C : Cx W Z own nm bc maxL rt) {i : Nat} {x : Addr} {o : Slot} (hd : decode bc pc = .ok (.astore i, 2)) (hold : Ls[i]? = some o) (ho : One o) (Ls' : List Slot) (hL : Ls.set i (.val (.ref x)) = Ls') (q : Nat) (hq : pc + 2 = q) (g : Ok W R n0 Q h k n q Ls' st) : Ok W R n0 Q h k n pc Ls (.ref x :: st) := by
  subst hq
  exact g.back fun T locs X e t s => XS.astore X.here C.1 rfl (hb C.2.2.1 hd) rfl rfl (own_store hold ho rfl hL) s
theorem Ok.astoreN (C : Cx W Z own nm bc maxL rt) {i : Fin 4} {x : Addr} {o : Slot} (hd : decode bc pc = .ok (.astore_n i, 1)) (hold : Ls[i.val]? = some o) (ho : One o) (Ls' : List Slot) (hL : Ls.set i.val (.val (.ref x)) = Ls') (q : Nat) (hq : pc + 1 = q) (g : Ok W R n0 Q h k n q Ls' st) : Ok W R n0 Q h k n pc Ls (.ref x :: st) := by
  subst hq
  exact g.back fun T locs X e t s => XS.astoreN X.here C.1 rfl (hb C.2.2.1 hd) rfl rfl (own_store hold ho rfl hL) s
theorem Ok.lstore (C : Cx W Z own nm bc maxL rt) {i : Nat} {x : Int64} (hd : decode bc pc = .ok (.lstore i, 2)) (Ls' : List Slot) (hL : storeLocals Ls.toArray i (.long x) = some Ls'.toArray) (q : Nat) (hq : pc + 2 = q) (g : Ok W R n0 Q h k n q Ls' st) : Ok W R n0 Q h k n pc Ls (.long x :: st) := by
  subst hq
  exact g.back fun T locs X e t s => XS.lstore X.here C.1 rfl (hb C.2.2.1 hd) rfl hL s
theorem Ok.lstoreN (C : Cx W Z own nm bc maxL rt) {i : Fin 4} {x : Int64} (hd : decode bc pc = .ok (.lstore_n i, 1)) (Ls' : List Slot) (hL : storeLocals Ls.toArray i.val (.long x) = some Ls'.toArray) (q : Nat) (hq : pc + 1 = q) (g : Ok W R n0 Q h k n q Ls' st) : Ok W R n0 Q h k n pc Ls (.long x :: st) := by
  subst hq
  exact g.back fun T locs X e t s => XS.lstoreN X.here C.1 rfl (hb C.2.2.1 hd) rfl hL s
theorem Ok.iconst (C : Cx W Z own nm bc maxL rt) {i : Int} (hd : decode bc pc = .ok (.iconst i, 1)) (q : Nat) (hq : pc + 1 = q) (z : Int32) (hz : Int32.ofInt i = z) (g : Ok W R n0 Q h k n q Ls (.int z :: st)) : Ok W R n0 Q h k n pc Ls st := by
  subst hq hz
  exact g.back fun T locs X e t s => XS.iconst X.here C.1 rfl (hb C.2.2.1 hd) s
theorem Ok.bipush (C : Cx W Z own nm bc maxL rt) {i : Int} (hd : decode bc pc = .ok (.bipush i, 2)) (q : Nat) (hq : pc + 2 = q) (z : Int32) (hz : (Int8.ofInt i).toInt32 = z) (g : Ok W R n0 Q h k n q Ls (.int z :: st)) : Ok W R n0 Q h k n pc Ls st := by
  subst hq hz
  exact g.back fun T locs X e t s => XS.bipush X.here C.1 rfl (hb C.2.2.1 hd) s
theorem Ok.sipush (C : Cx W Z own nm bc maxL rt) {i : Int} (hd : decode bc pc = .ok (.sipush i, 3)) (q : Nat) (hq : pc + 3 = q) (z : Int32) (hz : (Int16.ofInt i).toInt32 = z) (g : Ok W R n0 Q h k n q Ls (.int z :: st)) : Ok W R n0 Q h k n pc Ls st := by
  subst hq hz
  exact g.back fun T locs X e t s => XS.sipush X.here C.1 rfl (hb C.2.2.1 hd) s
theorem Ok.lconst (C : Cx W Z own nm bc maxL rt) {i : Fin 2} (hd : decode bc pc = .ok (.lconst i, 1)) (q : Nat) (hq : pc + 1 = q) (z : Int64) (hz : Int64.ofNat i = z) (g : Ok W R n0 Q h k n q Ls (.long z :: st)) : Ok W R n0 Q h k n pc Ls st := by
  subst hq hz
  exact g.back fun T locs X e t s => XS.lconst X.here C.1 rfl (hb C.2.2.1 hd) s
theorem Ok.ldc (C : Cx W Z own nm bc maxL rt) {i : Nat} {v : Int32} (w : (Jvm.Cond.constant own i v).before a0 Z = true) (hd : decode bc pc = .ok (.ldc i, 2)) (q : Nat) (hq : pc + 2 = q) (g : Ok W R n0 Q h k n q Ls (.int v :: st)) : Ok W R n0 Q h k n pc Ls st := by
  subst hq
  exact g.back fun T locs X e t s => X.ldcInt C.1 C.2.2.2.2.1 (mvT C.2.1 w) (g := mkF W.m pc Ls.toArray st) rfl (hb C.2.2.1 hd) t s
theorem Ok.ldc2 (C : Cx W Z own nm bc maxL rt) {i : Nat} {v : Int64} (w : (Jvm.Cond.constantLong own i v).before a0 Z = true) (hd : decode bc pc = .ok (.ldc2_w i, 3)) (q : Nat) (hq : pc + 3 = q) (g : Ok W R n0 Q h k n q Ls (.long v :: st)) : Ok W R n0 Q h k n pc Ls st := by
  subst hq
  exact g.back fun T locs X e t s => X.ldc2Long C.1 C.2.2.2.2.1 (mvT C.2.1 w) (g := mkF W.m pc Ls.toArray st) rfl (hb C.2.2.1 hd) t s
theorem Ok.iadd (C : Cx W Z own nm bc maxL rt) {x : Int32} {y : Int32} (hd : decode bc pc = .ok (.iadd, 1)) (q : Nat) (hq : pc + 1 = q) (g : ∀ z, z = x + y → Ok W R n0 Q h k n q Ls (.int z :: st)) : Ok W R n0 Q h k n pc Ls (.int y :: .int x :: st) := by
  subst hq
  exact (g _ rfl).back fun T locs X e t s => XS.iadd X.here C.1 rfl (hb C.2.2.1 hd) rfl s
theorem Ok.isub (C : Cx W Z own nm bc maxL rt) {x : Int32} {y : Int32} (hd : decode bc pc = .ok (.isub, 1)) (q : Nat) (hq : pc + 1 = q) (g : ∀ z, z = x - y → Ok W R n0 Q h k n q Ls (.int z :: st)) : Ok W R n0 Q h k n pc Ls (.int y :: .int x :: st) := by
  subst hq
  exact (g _ rfl).back fun T locs X e t s => XS.isub X.here C.1 rfl (hb C.2.2.1 hd) rfl s
theorem Ok.imul (C : Cx W Z own nm bc maxL rt) {x : Int32} {y : Int32} (hd : decode bc pc = .ok (.imul, 1)) (q : Nat) (hq : pc + 1 = q) (g : ∀ z, z = x * y → Ok W R n0 Q h k n q Ls (.int z :: st)) : Ok W R n0 Q h k n pc Ls (.int y :: .int x :: st) := by
  subst hq
  exact (g _ rfl).back fun T locs X e t s => XS.imul X.here C.1 rfl (hb C.2.2.1 hd) rfl s
theorem Ok.iand (C : Cx W Z own nm bc maxL rt) {x : Int32} {y : Int32} (hd : decode bc pc = .ok (.iand, 1)) (q : Nat) (hq : pc + 1 = q) (g : ∀ z, z = x &&& y → Ok W R n0 Q h k n q Ls (.int z :: st)) : Ok W R n0 Q h k n pc Ls (.int y :: .int x :: st) := by
  subst hq
  exact (g _ rfl).back fun T locs X e t s => XS.iand X.here C.1 rfl (hb C.2.2.1 hd) rfl s
theorem Ok.ior (C : Cx W Z own nm bc maxL rt) {x : Int32} {y : Int32} (hd : decode bc pc = .ok (.ior, 1)) (q : Nat) (hq : pc + 1 = q) (g : ∀ z, z = x ||| y → Ok W R n0 Q h k n q Ls (.int z :: st)) : Ok W R n0 Q h k n pc Ls (.int y :: .int x :: st) := by
  subst hq
  exact (g _ rfl).back fun T locs X e t s => XS.ior X.here C.1 rfl (hb C.2.2.1 hd) rfl s
theorem Ok.ixor (C : Cx W Z own nm bc maxL rt) {x : Int32} {y : Int32} (hd : decode bc pc = .ok (.ixor, 1)) (q : Nat) (hq : pc + 1 = q) (g : ∀ z, z = x ^^^ y → Ok W R n0 Q h k n q Ls (.int z :: st)) : Ok W R n0 Q h k n pc Ls (.int y :: .int x :: st) := by
  subst hq
  exact (g _ rfl).back fun T locs X e t s => XS.ixor X.here C.1 rfl (hb C.2.2.1 hd) rfl s
theorem Ok.ishl (C : Cx W Z own nm bc maxL rt) {x : Int32} {y : Int32} (hd : decode bc pc = .ok (.ishl, 1)) (q : Nat) (hq : pc + 1 = q) (g : ∀ z, z = x <<< (y &&& 31) → Ok W R n0 Q h k n q Ls (.int z :: st)) : Ok W R n0 Q h k n pc Ls (.int y :: .int x :: st) := by
  subst hq
  exact (g _ rfl).back fun T locs X e t s => XS.ishl X.here C.1 rfl (hb C.2.2.1 hd) rfl s
theorem Ok.ishr (C : Cx W Z own nm bc maxL rt) {x : Int32} {y : Int32} (hd : decode bc pc = .ok (.ishr, 1)) (q : Nat) (hq : pc + 1 = q) (g : ∀ z, z = x >>> (y &&& 31) → Ok W R n0 Q h k n q Ls (.int z :: st)) : Ok W R n0 Q h k n pc Ls (.int y :: .int x :: st) := by
  subst hq
  exact (g _ rfl).back fun T locs X e t s => XS.ishr X.here C.1 rfl (hb C.2.2.1 hd) rfl s
theorem Ok.iushr (C : Cx W Z own nm bc maxL rt) {x : Int32} {y : Int32} (hd : decode bc pc = .ok (.iushr, 1)) (q : Nat) (hq : pc + 1 = q) (g : ∀ z, z = (x.toUInt32 >>> (y &&& 31).toUInt32).toInt32 → Ok W R n0 Q h k n q Ls (.int z :: st)) : Ok W R n0 Q h k n pc Ls (.int y :: .int x :: st) := by
  subst hq
  exact (g _ rfl).back fun T locs X e t s => XS.iushr X.here C.1 rfl (hb C.2.2.1 hd) rfl s
theorem Ok.ladd (C : Cx W Z own nm bc maxL rt) {x : Int64} {y : Int64} (hd : decode bc pc = .ok (.ladd, 1)) (q : Nat) (hq : pc + 1 = q) (g : ∀ z, z = x + y → Ok W R n0 Q h k n q Ls (.long z :: st)) : Ok W R n0 Q h k n pc Ls (.long y :: .long x :: st) := by
  subst hq
  exact (g _ rfl).back fun T locs X e t s => XS.ladd X.here C.1 rfl (hb C.2.2.1 hd) rfl s
theorem Ok.lsub (C : Cx W Z own nm bc maxL rt) {x : Int64} {y : Int64} (hd : decode bc pc = .ok (.lsub, 1)) (q : Nat) (hq : pc + 1 = q) (g : ∀ z, z = x - y → Ok W R n0 Q h k n q Ls (.long z :: st)) : Ok W R n0 Q h k n pc Ls (.long y :: .long x :: st) := by
  subst hq
  exact (g _ rfl).back fun T locs X e t s => XS.lsub X.here C.1 rfl (hb C.2.2.1 hd) rfl s
theorem Ok.lmul (C : Cx W Z own nm bc maxL rt) {x : Int64} {y : Int64} (hd : decode bc pc = .ok (.lmul, 1)) (q : Nat) (hq : pc + 1 = q) (g : ∀ z, z = x * y → Ok W R n0 Q h k n q Ls (.long z :: st)) : Ok W R n0 Q h k n pc Ls (.long y :: .long x :: st) := by
  subst hq
  exact (g _ rfl).back fun T locs X e t s => XS.lmul X.here C.1 rfl (hb C.2.2.1 hd) rfl s
theorem Ok.land (C : Cx W Z own nm bc maxL rt) {x : Int64} {y : Int64} (hd : decode bc pc = .ok (.land, 1)) (q : Nat) (hq : pc + 1 = q) (g : ∀ z, z = x &&& y → Ok W R n0 Q h k n q Ls (.long z :: st)) : Ok W R n0 Q h k n pc Ls (.long y :: .long x :: st) := by
  subst hq
  exact (g _ rfl).back fun T locs X e t s => XS.land X.here C.1 rfl (hb C.2.2.1 hd) rfl s
theorem Ok.lor (C : Cx W Z own nm bc maxL rt) {x : Int64} {y : Int64} (hd : decode bc pc = .ok (.lor, 1)) (q : Nat) (hq : pc + 1 = q) (g : ∀ z, z = x ||| y → Ok W R n0 Q h k n q Ls (.long z :: st)) : Ok W R n0 Q h k n pc Ls (.long y :: .long x :: st) := by
  subst hq
  exact (g _ rfl).back fun T locs X e t s => XS.lor X.here C.1 rfl (hb C.2.2.1 hd) rfl s
theorem Ok.lxor (C : Cx W Z own nm bc maxL rt) {x : Int64} {y : Int64} (hd : decode bc pc = .ok (.lxor, 1)) (q : Nat) (hq : pc + 1 = q) (g : ∀ z, z = x ^^^ y → Ok W R n0 Q h k n q Ls (.long z :: st)) : Ok W R n0 Q h k n pc Ls (.long y :: .long x :: st) := by
  subst hq
  exact (g _ rfl).back fun T locs X e t s => XS.lxor X.here C.1 rfl (hb C.2.2.1 hd) rfl s
theorem Ok.lshl (C : Cx W Z own nm bc maxL rt) {x : Int64} {y : Int32} (hd : decode bc pc = .ok (.lshl, 1)) (q : Nat) (hq : pc + 1 = q) (g : ∀ z, z = x <<< (y &&& 0x3f).toInt64 → Ok W R n0 Q h k n q Ls (.long z :: st)) : Ok W R n0 Q h k n pc Ls (.int y :: .long x :: st) := by
  subst hq
  exact (g _ rfl).back fun T locs X e t s => XS.lshl X.here C.1 rfl (hb C.2.2.1 hd) rfl s
theorem Ok.lushr (C : Cx W Z own nm bc maxL rt) {x : Int64} {y : Int32} (hd : decode bc pc = .ok (.lushr, 1)) (q : Nat) (hq : pc + 1 = q) (g : ∀ z, z = (x.toUInt64 >>> (y &&& 0x3f).toInt64.toUInt64).toInt64 → Ok W R n0 Q h k n q Ls (.long z :: st)) : Ok W R n0 Q h k n pc Ls (.int y :: .long x :: st) := by
  subst hq
  exact (g _ rfl).back fun T locs X e t s => XS.lushr X.here C.1 rfl (hb C.2.2.1 hd) rfl s
theorem Ok.idiv (C : Cx W Z own nm bc maxL rt) {x y : Int32} (hd : decode bc pc = .ok (.idiv, 1)) (hy : y ≠ 0) (q : Nat) (hq : pc + 1 = q) (g : ∀ z, z = x / y → Ok W R n0 Q h k n q Ls (.int z :: st)) : Ok W R n0 Q h k n pc Ls (.int y :: .int x :: st) := by
  subst hq
  exact (g _ rfl).back fun T locs X e t s => XS.idiv X.here C.1 rfl (hb C.2.2.1 hd) rfl hy s
theorem Ok.ldiv (C : Cx W Z own nm bc maxL rt) {x y : Int64} (hd : decode bc pc = .ok (.ldiv, 1)) (hy : y ≠ 0) (q : Nat) (hq : pc + 1 = q) (g : ∀ z, z = x / y → Ok W R n0 Q h k n q Ls (.long z :: st)) : Ok W R n0 Q h k n pc Ls (.long y :: .long x :: st) := by
  subst hq
  exact (g _ rfl).back fun T locs X e t s => XS.ldiv X.here C.1 rfl (hb C.2.2.1 hd) rfl hy s
theorem Ok.irem (C : Cx W Z own nm bc maxL rt) {x y : Int32} (hd : decode bc pc = .ok (.irem, 1)) (hy : y ≠ 0) (q : Nat) (hq : pc + 1 = q) (g : ∀ z, z = x % y → Ok W R n0 Q h k n q Ls (.int z :: st)) : Ok W R n0 Q h k n pc Ls (.int y :: .int x :: st) := by
  subst hq
  exact (g _ rfl).back fun T locs X e t s => iremM X C.1 rfl (hb C.2.2.1 hd) rfl hy s
theorem Ok.lrem (C : Cx W Z own nm bc maxL rt) {x y : Int64} (hd : decode bc pc = .ok (.lrem, 1)) (hy : y ≠ 0) (q : Nat) (hq : pc + 1 = q) (g : ∀ z, z = x % y → Ok W R n0 Q h k n q Ls (.long z :: st)) : Ok W R n0 Q h k n pc Ls (.long y :: .long x :: st) := by
  subst hq
  have g := g _ (lrem_mod x y)
  exact g.back fun T locs X e t s => XS.lrem X.here C.1 rfl (hb C.2.2.1 hd) rfl hy s
theorem Ok.i2l (C : Cx W Z own nm bc maxL rt) {x : Int32} (hd : decode bc pc = .ok (.i2l, 1)) (q : Nat) (hq : pc + 1 = q) (g : ∀ z, z = x.toInt64 → Ok W R n0 Q h k n q Ls (.long z :: st)) : Ok W R n0 Q h k n pc Ls (.int x :: st) := by
  subst hq
  exact (g _ rfl).back fun T locs X e t s => XS.i2l X.here C.1 rfl (hb C.2.2.1 hd) rfl s
theorem Ok.l2i (C : Cx W Z own nm bc maxL rt) {x : Int64} (hd : decode bc pc = .ok (.l2i, 1)) (q : Nat) (hq : pc + 1 = q) (g : ∀ z, z = x.toInt32 → Ok W R n0 Q h k n q Ls (.int z :: st)) : Ok W R n0 Q h k n pc Ls (.long x :: st) := by
  subst hq
  exact (g _ rfl).back fun T locs X e t s => XS.l2i X.here C.1 rfl (hb C.2.2.1 hd) rfl s
theorem Ok.i2b (C : Cx W Z own nm bc maxL rt) {x : Int32} (hd : decode bc pc = .ok (.i2b, 1)) (q : Nat) (hq : pc + 1 = q) (g : ∀ z, z = x.toInt8.toInt32 → Ok W R n0 Q h k n q Ls (.int z :: st)) : Ok W R n0 Q h k n pc Ls (.int x :: st) := by
  subst hq
  exact (g _ rfl).back fun T locs X e t s => XS.i2b X.here C.1 rfl (hb C.2.2.1 hd) rfl s
theorem Ok.ineg (C : Cx W Z own nm bc maxL rt) {x : Int32} (hd : decode bc pc = .ok (.ineg, 1)) (q : Nat) (hq : pc + 1 = q) (g : ∀ z, z = -x → Ok W R n0 Q h k n q Ls (.int z :: st)) : Ok W R n0 Q h k n pc Ls (.int x :: st) := by
  subst hq
  exact (g _ rfl).back fun T locs X e t s => XS.ineg X.here C.1 rfl (hb C.2.2.1 hd) rfl s
theorem Ok.lneg (C : Cx W Z own nm bc maxL rt) {x : Int64} (hd : decode bc pc = .ok (.lneg, 1)) (q : Nat) (hq : pc + 1 = q) (g : ∀ z, z = -x → Ok W R n0 Q h k n q Ls (.long z :: st)) : Ok W R n0 Q h k n pc Ls (.long x :: st) := by
  subst hq
  exact (g _ rfl).back fun T locs X e t s => XS.lneg X.here C.1 rfl (hb C.2.2.1 hd) rfl s
theorem Ok.iinc (C : Cx W Z own nm bc maxL rt) {i : Nat} {cst : Int} {x : Int32} (hd : decode bc pc = .ok (.iinc i cst, 3)) (hl : Ls[i]? = some (.val (.int x))) (z : Int32) (hz : Int32.ofInt cst = z) (Ls' : Int32 → List Slot) (hL : ∀ y, Ls.set i (.val (.int y)) = Ls' y) (q : Nat) (hq : pc + 3 = q) (g : ∀ y, y = x + z → Ok W R n0 Q h k n q (Ls' y) st) : Ok W R n0 Q h k n pc Ls st := by
  subst hq hz
  exact (g _ rfl).back fun T locs X e t s => XS.iinc X.here C.1 rfl (hb C.2.2.1 hd) (own_get hl) (own_store hl (One.val rfl) rfl (hL _)) s
theorem Ok.dup (C : Cx W Z own nm bc maxL rt) {x : Value} (hd : decode bc pc = .ok (.dup, 1)) (hc : x.category = 1) (q : Nat) (hq : pc + 1 = q) (g : Ok W R n0 Q h k n q Ls (x :: x :: st)) : Ok W R n0 Q h k n pc Ls (x :: st) := by
  subst hq
  exact g.back fun T locs X e t s => XS.dup X.here C.1 rfl (hb C.2.2.1 hd) rfl hc s
theorem Ok.pop (C : Cx W Z own nm bc maxL rt) {x : Value} (hd : decode bc pc = .ok (.pop, 1)) (hc : x.category = 1) (q : Nat) (hq : pc + 1 = q) (g : Ok W R n0 Q h k n q Ls st) : Ok W R n0 Q h k n pc Ls (x :: st) := by
  subst hq
  exact g.back fun T locs X e t s => XS.pop X.here C.1 rfl (hb C.2.2.1 hd) rfl hc s
theorem Ok.dupX1 (C : Cx W Z own nm bc maxL rt) {x y : Value} (hd : decode bc pc = .ok (.dup_x1, 1)) (hc : x.category = 1) (hc2 : y.category = 1) (q : Nat) (hq : pc + 1 = q) (g : Ok W R n0 Q h k n q Ls (x :: y :: x :: st)) : Ok W R n0 Q h k n pc Ls (x :: y :: st) := by
  subst hq
  exact g.back fun T locs X e t s => XS.dupX1 X.here C.1 rfl (hb C.2.2.1 hd) rfl hc hc2 s
theorem Ok.dup2 (C : Cx W Z own nm bc maxL rt) {x y : Value} (hd : decode bc pc = .ok (.dup2, 1)) (hc : x.category = 1) (hc2 : y.category = 1) (q : Nat) (hq : pc + 1 = q) (g : Ok W R n0 Q h k n q Ls (x :: y :: x :: y :: st)) : Ok W R n0 Q h k n pc Ls (x :: y :: st) := by
  subst hq
  exact g.back fun T locs X e t s => by
    have hd' := hb C.2.2.1 hd
    have hx := C.1
    show Steps _ _ _ (T.setTop { method := W.m, pc := pc, locals := Ls.toArray, stack := x :: y :: st, locked := none }) _
    jvm_step X.here [X.here.top, hx, hd', hc, hc2]
    exact s
theorem Ok.dupX2 (C : Cx W Z own nm bc maxL rt) {x y z : Value} (hd : decode bc pc = .ok (.dup_x2, 1)) (hc : x.category = 1) (hc2 : y.category = 1) (hc3 : z.category = 1) (q : Nat) (hq : pc + 1 = q) (g : Ok W R n0 Q h k n q Ls (x :: y :: z :: x :: st)) : Ok W R n0 Q h k n pc Ls (x :: y :: z :: st) := by
  subst hq
  exact g.back fun T locs X e t s => by
    have hd' := hb C.2.2.1 hd
    have hx := C.1
    show Steps _ _ _ (T.setTop { method := W.m, pc := pc, locals := Ls.toArray, stack := x :: y :: z :: st, locked := none }) _
    jvm_step X.here [X.here.top, hx, hd', hc, hc2, hc3]
    exact s
theorem Ok.goto (C : Cx W Z own nm bc maxL rt) {o : Int} (hd : decode bc pc = .ok (.goto o, 3)) (q : Nat) (hq : (pc : Int) + o = q) (g : Ok W R n0 Q h k n q Ls st) : Ok W R n0 Q h k n pc Ls st :=
  g.back fun T locs X e t s => XS.goto X.here C.1 rfl (pc0 := pc) (pc' := q) rfl (hb C.2.2.1 hd) (by omega) (by omega) s
theorem Ok.icmpB (C : Cx W Z own nm bc maxL rt) {cd : ClassFile.Cond} {x y : Int32} {o : Int} (hd : decode bc pc = .ok (.if_icmp cd o, 3)) (t q : Nat) (ht : (pc : Int) + o = t) (hq : pc + 3 = q) (g1 : if_icmp.holds cd x y = true → Ok W R n0 Q h k n t Ls st) (g2 : if_icmp.holds cd x y = false → Ok W R n0 Q h k n q Ls st) : Ok W R n0 Q h k n pc Ls (.int y :: .int x :: st) := by
  subst hq
  cases hc : if_icmp.holds cd x y
  · exact (g2 hc).back fun T locs X e t s => XS.icmpNo X.here C.1 rfl (hb C.2.2.1 hd) rfl hc s
  · exact (g1 hc).back fun T locs X e t' s => XS.icmpYes X.here C.1 rfl (pc0 := pc) (pc' := t) rfl (hb C.2.2.1 hd) rfl hc (by omega) (by omega) s
theorem Ok.ifB (C : Cx W Z own nm bc maxL rt) {cd : ClassFile.Cond} {x : Int32} {o : Int} (hd : decode bc pc = .ok (.ifCond cd o, 3)) (t q : Nat) (ht : (pc : Int) + o = t) (hq : pc + 3 = q) (g1 : if_icmp.holds cd x 0 = true → Ok W R n0 Q h k n t Ls st) (g2 : if_icmp.holds cd x 0 = false → Ok W R n0 Q h k n q Ls st) : Ok W R n0 Q h k n pc Ls (.int x :: st) := by
  subst hq
  cases hc : if_icmp.holds cd x 0
  · exact (g2 hc).back fun T locs X e t s => XS.ifNo X.here C.1 rfl (hb C.2.2.1 hd) rfl ((if0 _ _).trans hc) s
  · exact (g1 hc).back fun T locs X e t' s => XS.ifYes X.here C.1 rfl (pc0 := pc) (pc' := t) rfl (hb C.2.2.1 hd) rfl ((if0 _ _).trans hc) (by omega) (by omega) s
theorem Ok.lcmp (C : Cx W Z own nm bc maxL rt) {x y : Int64} (hd : decode bc pc = .ok (.lcmp, 1)) (q : Nat) (hq : pc + 1 = q) (g : Ok W R n0 Q h k n q Ls (.int (lcmpW x y) :: st)) : Ok W R n0 Q h k n pc Ls (.long y :: .long x :: st) := by
  subst hq
  exact g.back fun T locs X e t s => XS.lcmp X.here C.1 rfl (hb C.2.2.1 hd) rfl s
theorem h_lt {x y : Int32} : (if_icmp.holds .lt x y = true → x.toInt < y.toInt) ∧ (if_icmp.holds .lt x y = false → y.toInt ≤ x.toInt) := by simp [if_icmp.holds, Int32.lt_iff_toInt_lt]
theorem h_ge {x y : Int32} : (if_icmp.holds .ge x y = true → y.toInt ≤ x.toInt) ∧ (if_icmp.holds .ge x y = false → x.toInt < y.toInt) := by simp [if_icmp.holds, Int32.le_iff_toInt_le]
theorem h_gt {x y : Int32} : (if_icmp.holds .gt x y = true → y.toInt < x.toInt) ∧ (if_icmp.holds .gt x y = false → x.toInt ≤ y.toInt) := by simp [if_icmp.holds, Int32.lt_iff_toInt_lt]
theorem h_le {x y : Int32} : (if_icmp.holds .le x y = true → x.toInt ≤ y.toInt) ∧ (if_icmp.holds .le x y = false → y.toInt < x.toInt) := by simp [if_icmp.holds, Int32.le_iff_toInt_le]
theorem h_eq {x y : Int32} : (if_icmp.holds .eq x y = true → x.toInt = y.toInt) ∧ (if_icmp.holds .eq x y = false → x.toInt ≠ y.toInt) := by simp [if_icmp.holds, Int32.toInt_inj]
theorem h_ne {x y : Int32} : (if_icmp.holds .ne x y = true → x.toInt ≠ y.toInt) ∧ (if_icmp.holds .ne x y = false → x.toInt = y.toInt) := by simp [if_icmp.holds, Int32.toInt_inj]
theorem lw_z (x y : Int64) : (lcmpW x y).toInt = 1 ∧ y.toInt < x.toInt ∨ (lcmpW x y).toInt = 0 ∧ x.toInt = y.toInt ∨ (lcmpW x y).toInt = -1 ∧ x.toInt < y.toInt := by
  obtain ⟨a, b, c⟩ := c_lcmp x y
  by_cases h1 : x.toInt < y.toInt
  · exact Or.inr (Or.inr ⟨a h1, h1⟩)
  · by_cases h2 : x.toInt = y.toInt
    · exact Or.inr (Or.inl ⟨b h2, h2⟩)
    · exact Or.inl ⟨c (by omega), by omega⟩
theorem z32 : (0 : Int32).toInt = 0 := rfl
theorem Ok.icmp_lt (C : Cx W Z own nm bc maxL rt) {x y : Int32} {o : Int} (hd : decode bc pc = .ok (.if_icmp .lt o, 3)) (t q : Nat) (ht : (pc : Int) + o = t) (hq : pc + 3 = q) (g1 : x.toInt < y.toInt → Ok W R n0 Q h k n t Ls st) (g2 : y.toInt ≤ x.toInt → Ok W R n0 Q h k n q Ls st) : Ok W R n0 Q h k n pc Ls (.int y :: .int x :: st) :=
  Ok.icmpB C hd t q ht hq (fun z => g1 (h_lt.1 z)) (fun z => g2 (h_lt.2 z))
theorem Ok.if_lt (C : Cx W Z own nm bc maxL rt) {x : Int32} {o : Int} (hd : decode bc pc = .ok (.ifCond .lt o, 3)) (t q : Nat) (ht : (pc : Int) + o = t) (hq : pc + 3 = q) (g1 : x.toInt < 0 → Ok W R n0 Q h k n t Ls st) (g2 : 0 ≤ x.toInt → Ok W R n0 Q h k n q Ls st) : Ok W R n0 Q h k n pc Ls (.int x :: st) :=
  Ok.ifB C hd t q ht hq (fun z => g1 (h_lt.1 z)) (fun z => g2 (h_lt.2 z))
theorem Ok.lcmp_lt (C : Cx W Z own nm bc maxL rt) {x y : Int64} {o : Int} (hd0 : decode bc pc = .ok (.lcmp, 1)) (hd : decode bc (pc + 1) = .ok (.ifCond .lt o, 3)) (t q : Nat) (ht : ((pc + 1 : Nat) : Int) + o = t) (hq : pc + 1 + 3 = q) (g1 : x.toInt < y.toInt → Ok W R n0 Q h k n t Ls st) (g2 : y.toInt ≤ x.toInt → Ok W R n0 Q h k n q Ls st) : Ok W R n0 Q h k n pc Ls (.long y :: .long x :: st) :=
  Ok.lcmp C hd0 _ rfl (Ok.if_lt C hd t q ht hq (fun z => g1 (by have := lw_z x y; omega)) (fun z => g2 (by have := lw_z x y; omega)))
theorem Ok.icmp_ge (C : Cx W Z own nm bc maxL rt) {x y : Int32} {o : Int} (hd : decode bc pc = .ok (.if_icmp .ge o, 3)) (t q : Nat) (ht : (pc : Int) + o = t) (hq : pc + 3 = q) (g1 : y.toInt ≤ x.toInt → Ok W R n0 Q h k n t Ls st) (g2 : x.toInt < y.toInt → Ok W R n0 Q h k n q Ls st) : Ok W R n0 Q h k n pc Ls (.int y :: .int x :: st) :=
  Ok.icmpB C hd t q ht hq (fun z => g1 (h_ge.1 z)) (fun z => g2 (h_ge.2 z))
theorem Ok.if_ge (C : Cx W Z own nm bc maxL rt) {x : Int32} {o : Int} (hd : decode bc pc = .ok (.ifCond .ge o, 3)) (t q : Nat) (ht : (pc : Int) + o = t) (hq : pc + 3 = q) (g1 : 0 ≤ x.toInt → Ok W R n0 Q h k n t Ls st) (g2 : x.toInt < 0 → Ok W R n0 Q h k n q Ls st) : Ok W R n0 Q h k n pc Ls (.int x :: st) :=
  Ok.ifB C hd t q ht hq (fun z => g1 (h_ge.1 z)) (fun z => g2 (h_ge.2 z))
theorem Ok.lcmp_ge (C : Cx W Z own nm bc maxL rt) {x y : Int64} {o : Int} (hd0 : decode bc pc = .ok (.lcmp, 1)) (hd : decode bc (pc + 1) = .ok (.ifCond .ge o, 3)) (t q : Nat) (ht : ((pc + 1 : Nat) : Int) + o = t) (hq : pc + 1 + 3 = q) (g1 : y.toInt ≤ x.toInt → Ok W R n0 Q h k n t Ls st) (g2 : x.toInt < y.toInt → Ok W R n0 Q h k n q Ls st) : Ok W R n0 Q h k n pc Ls (.long y :: .long x :: st) :=
  Ok.lcmp C hd0 _ rfl (Ok.if_ge C hd t q ht hq (fun z => g1 (by have := lw_z x y; omega)) (fun z => g2 (by have := lw_z x y; omega)))
theorem Ok.icmp_gt (C : Cx W Z own nm bc maxL rt) {x y : Int32} {o : Int} (hd : decode bc pc = .ok (.if_icmp .gt o, 3)) (t q : Nat) (ht : (pc : Int) + o = t) (hq : pc + 3 = q) (g1 : y.toInt < x.toInt → Ok W R n0 Q h k n t Ls st) (g2 : x.toInt ≤ y.toInt → Ok W R n0 Q h k n q Ls st) : Ok W R n0 Q h k n pc Ls (.int y :: .int x :: st) :=
  Ok.icmpB C hd t q ht hq (fun z => g1 (h_gt.1 z)) (fun z => g2 (h_gt.2 z))
theorem Ok.if_gt (C : Cx W Z own nm bc maxL rt) {x : Int32} {o : Int} (hd : decode bc pc = .ok (.ifCond .gt o, 3)) (t q : Nat) (ht : (pc : Int) + o = t) (hq : pc + 3 = q) (g1 : 0 < x.toInt → Ok W R n0 Q h k n t Ls st) (g2 : x.toInt ≤ 0 → Ok W R n0 Q h k n q Ls st) : Ok W R n0 Q h k n pc Ls (.int x :: st) :=
  Ok.ifB C hd t q ht hq (fun z => g1 (h_gt.1 z)) (fun z => g2 (h_gt.2 z))
theorem Ok.lcmp_gt (C : Cx W Z own nm bc maxL rt) {x y : Int64} {o : Int} (hd0 : decode bc pc = .ok (.lcmp, 1)) (hd : decode bc (pc + 1) = .ok (.ifCond .gt o, 3)) (t q : Nat) (ht : ((pc + 1 : Nat) : Int) + o = t) (hq : pc + 1 + 3 = q) (g1 : y.toInt < x.toInt → Ok W R n0 Q h k n t Ls st) (g2 : x.toInt ≤ y.toInt → Ok W R n0 Q h k n q Ls st) : Ok W R n0 Q h k n pc Ls (.long y :: .long x :: st) :=
  Ok.lcmp C hd0 _ rfl (Ok.if_gt C hd t q ht hq (fun z => g1 (by have := lw_z x y; omega)) (fun z => g2 (by have := lw_z x y; omega)))
theorem Ok.icmp_le (C : Cx W Z own nm bc maxL rt) {x y : Int32} {o : Int} (hd : decode bc pc = .ok (.if_icmp .le o, 3)) (t q : Nat) (ht : (pc : Int) + o = t) (hq : pc + 3 = q) (g1 : x.toInt ≤ y.toInt → Ok W R n0 Q h k n t Ls st) (g2 : y.toInt < x.toInt → Ok W R n0 Q h k n q Ls st) : Ok W R n0 Q h k n pc Ls (.int y :: .int x :: st) :=
  Ok.icmpB C hd t q ht hq (fun z => g1 (h_le.1 z)) (fun z => g2 (h_le.2 z))
theorem Ok.if_le (C : Cx W Z own nm bc maxL rt) {x : Int32} {o : Int} (hd : decode bc pc = .ok (.ifCond .le o, 3)) (t q : Nat) (ht : (pc : Int) + o = t) (hq : pc + 3 = q) (g1 : x.toInt ≤ 0 → Ok W R n0 Q h k n t Ls st) (g2 : 0 < x.toInt → Ok W R n0 Q h k n q Ls st) : Ok W R n0 Q h k n pc Ls (.int x :: st) :=
  Ok.ifB C hd t q ht hq (fun z => g1 (h_le.1 z)) (fun z => g2 (h_le.2 z))
theorem Ok.lcmp_le (C : Cx W Z own nm bc maxL rt) {x y : Int64} {o : Int} (hd0 : decode bc pc = .ok (.lcmp, 1)) (hd : decode bc (pc + 1) = .ok (.ifCond .le o, 3)) (t q : Nat) (ht : ((pc + 1 : Nat) : Int) + o = t) (hq : pc + 1 + 3 = q) (g1 : x.toInt ≤ y.toInt → Ok W R n0 Q h k n t Ls st) (g2 : y.toInt < x.toInt → Ok W R n0 Q h k n q Ls st) : Ok W R n0 Q h k n pc Ls (.long y :: .long x :: st) :=
  Ok.lcmp C hd0 _ rfl (Ok.if_le C hd t q ht hq (fun z => g1 (by have := lw_z x y; omega)) (fun z => g2 (by have := lw_z x y; omega)))
theorem Ok.icmp_eq (C : Cx W Z own nm bc maxL rt) {x y : Int32} {o : Int} (hd : decode bc pc = .ok (.if_icmp .eq o, 3)) (t q : Nat) (ht : (pc : Int) + o = t) (hq : pc + 3 = q) (g1 : x.toInt = y.toInt → Ok W R n0 Q h k n t Ls st) (g2 : x.toInt ≠ y.toInt → Ok W R n0 Q h k n q Ls st) : Ok W R n0 Q h k n pc Ls (.int y :: .int x :: st) :=
  Ok.icmpB C hd t q ht hq (fun z => g1 (h_eq.1 z)) (fun z => g2 (h_eq.2 z))
theorem Ok.if_eq (C : Cx W Z own nm bc maxL rt) {x : Int32} {o : Int} (hd : decode bc pc = .ok (.ifCond .eq o, 3)) (t q : Nat) (ht : (pc : Int) + o = t) (hq : pc + 3 = q) (g1 : x.toInt = 0 → Ok W R n0 Q h k n t Ls st) (g2 : x.toInt ≠ 0 → Ok W R n0 Q h k n q Ls st) : Ok W R n0 Q h k n pc Ls (.int x :: st) :=
  Ok.ifB C hd t q ht hq (fun z => g1 (h_eq.1 z)) (fun z => g2 (h_eq.2 z))
theorem Ok.lcmp_eq (C : Cx W Z own nm bc maxL rt) {x y : Int64} {o : Int} (hd0 : decode bc pc = .ok (.lcmp, 1)) (hd : decode bc (pc + 1) = .ok (.ifCond .eq o, 3)) (t q : Nat) (ht : ((pc + 1 : Nat) : Int) + o = t) (hq : pc + 1 + 3 = q) (g1 : x.toInt = y.toInt → Ok W R n0 Q h k n t Ls st) (g2 : x.toInt ≠ y.toInt → Ok W R n0 Q h k n q Ls st) : Ok W R n0 Q h k n pc Ls (.long y :: .long x :: st) :=
  Ok.lcmp C hd0 _ rfl (Ok.if_eq C hd t q ht hq (fun z => g1 (by have := lw_z x y; omega)) (fun z => g2 (by have := lw_z x y; omega)))
theorem Ok.icmp_ne (C : Cx W Z own nm bc maxL rt) {x y : Int32} {o : Int} (hd : decode bc pc = .ok (.if_icmp .ne o, 3)) (t q : Nat) (ht : (pc : Int) + o = t) (hq : pc + 3 = q) (g1 : x.toInt ≠ y.toInt → Ok W R n0 Q h k n t Ls st) (g2 : x.toInt = y.toInt → Ok W R n0 Q h k n q Ls st) : Ok W R n0 Q h k n pc Ls (.int y :: .int x :: st) :=
  Ok.icmpB C hd t q ht hq (fun z => g1 (h_ne.1 z)) (fun z => g2 (h_ne.2 z))
theorem Ok.if_ne (C : Cx W Z own nm bc maxL rt) {x : Int32} {o : Int} (hd : decode bc pc = .ok (.ifCond .ne o, 3)) (t q : Nat) (ht : (pc : Int) + o = t) (hq : pc + 3 = q) (g1 : x.toInt ≠ 0 → Ok W R n0 Q h k n t Ls st) (g2 : x.toInt = 0 → Ok W R n0 Q h k n q Ls st) : Ok W R n0 Q h k n pc Ls (.int x :: st) :=
  Ok.ifB C hd t q ht hq (fun z => g1 (h_ne.1 z)) (fun z => g2 (h_ne.2 z))
theorem Ok.lcmp_ne (C : Cx W Z own nm bc maxL rt) {x y : Int64} {o : Int} (hd0 : decode bc pc = .ok (.lcmp, 1)) (hd : decode bc (pc + 1) = .ok (.ifCond .ne o, 3)) (t q : Nat) (ht : ((pc + 1 : Nat) : Int) + o = t) (hq : pc + 1 + 3 = q) (g1 : x.toInt ≠ y.toInt → Ok W R n0 Q h k n t Ls st) (g2 : x.toInt = y.toInt → Ok W R n0 Q h k n q Ls st) : Ok W R n0 Q h k n pc Ls (.long y :: .long x :: st) :=
  Ok.lcmp C hd0 _ rfl (Ok.if_ne C hd t q ht hq (fun z => g1 (by have := lw_z x y; omega)) (fun z => g2 (by have := lw_z x y; omega)))
/-! the heap -/
theorem Ok.getfield (C : Cx W Z own nm bc maxL rt) {O f d : String} {i : Nat} {a : Addr} {v : Value} (w : (Jvm.Cond.fieldLink own i O f d).before a0 Z = true) (hd : decode bc pc = .ok (.getfield i, 3)) (F : Fld Z h a O f d v) (q : Nat) (hq : pc + 3 = q) (g : Ok W R n0 Q h k n q Ls (v :: st)) : Ok W R n0 Q h k n pc Ls (.ref a :: st) := by
  subst hq
  exact g.move fun T locs X e => getF X C.1 C.2.1 C.2.2.2.2.1 (host := "") (Or.inl w) Via.refl e F (g := mkF W.m pc Ls.toArray (.ref a :: st)) rfl rfl (hb C.2.2.1 hd)
theorem Ok.putfield (C : Cx W Z own nm bc maxL rt) {O f d K : String} {i kk : Nat} {a : Addr} {v old : Value} {ty : FieldType} (w : (Jvm.Cond.fieldLink own i O f d).before a0 Z = true) (hd : decode bc pc = .ok (.putfield i, 3)) (F : Fld Z h a O f d old) (E : Exa Z h a K) (L : (Jvm.Cond.lays K O f d).before a0 Z = true ∨ ((Jvm.Cond.laysFinal K O f d).before a0 Z = true ∧ own = O ∧ nm = "<init>")) (wi : (Jvm.Cond.instantiable K kk).before a0 Z = true)
    (hty : parseFieldDescriptor d = some ty) (hn : narrow ty v = v) (hf : fits ty v = true) (hN : n0 ≤ a) (q : Nat) (hq : pc + 3 = q) (g : ∀ h', Wr h h' a (Jvm.RoadKit.slotOf Z O f d) v → Fld Z h' a O f d v → Ok W R n0 Q h' k n q Ls st) : Ok W R n0 Q h k n pc Ls (v :: .ref a :: st) := fun T locs X e N => by
  subst hq
  obtain ⟨T', h', X', e', Wr', st'⟩ := putF X C.1 C.2.1 C.2.2.2.2.1 (host := "") (Or.inl w) Via.refl e F E (L.imp id fun z => ⟨z.1, z.2.1, C.2.2.2.2.2.2.2.trans z.2.2⟩) wi hty hn hf (g := mkF W.m pc Ls.toArray (v :: .ref a :: st)) rfl rfl (hb C.2.2.1 hd)
  obtain ⟨s₂, o, S, r⟩ := g h' Wr' (F.same Wr') T' _ X' e' (Fr.snoc X' N hN)
  exact ⟨s₂, o, st' _ S, r⟩
theorem Ok.new (C : Cx W Z own nm bc maxL rt) {K : String} {i m : Nat} (w : (Jvm.Cond.classLink own i K).before a0 Z = true) (wi : (Jvm.Cond.instantiable K m).before a0 Z = true) (wz : (Jvm.Cond.initialized K).before a0 Z = true) (hd : decode bc pc = .ok (.new i, 3)) (hc : k + 1 ≤ R.cells) (hl : n + m ≤ R.slots) (q : Nat) (hq : pc + 3 = q)
    (g : ∀ h' a, a = h.size → Ext h h' → Exa Z h' a K → (∀ {O nm d : String} {ty : FieldType}, Laid Z a0 K O nm d → parseFieldDescriptor d = some ty → Fld Z h' a O nm d (defaultValue ty)) → Ok W R n0 Q h' (k + 1) (n + m) q Ls (.ref a :: st)) : Ok W R n0 Q h k n pc Ls st := fun T locs X e N => by
  subst hq
  obtain ⟨T', h', X', e', E', A', D', -, st'⟩ := newO X C.1 C.2.1 C.2.2.2.2.1 w wi wz e (g := mkF W.m pc Ls.toArray st) rfl (hb C.2.2.1 hd) hc hl
  obtain ⟨s₂, o, S, r⟩ := g h' _ rfl E' A' D' T' _ X' e' N
  exact ⟨s₂, o, st' _ S, r⟩
/-- the array at a holds vs -/
def AI (Z : State) (h : Heap) (a : Addr) (ty : FieldType) (vs : List Value) : Prop := ∃ c : Cell, Arr Z h a c ty ∧ c.slots = vs.toArray
theorem AI.lt {a : Addr} {ty : FieldType} {vs : List Value} (F : AI Z h a ty vs) : a < h.size := by obtain ⟨c, A, -⟩ := F; exact A.lt
theorem AI.ext {h' : Heap} {a : Addr} {ty : FieldType} {vs : List Value} (F : AI Z h a ty vs) (E : Ext h h') : AI Z h' a ty vs := by obtain ⟨c, A, r⟩ := F; exact ⟨c, A.ext E, r⟩
theorem AI.other {h' : Heap} {a b : Addr} {sl : Nat} {v : Value} {ty : FieldType} {vs : List Value} (F : AI Z h b ty vs) (W : Wr h h' a sl v) (q : b ≠ a) : AI Z h' b ty vs := by obtain ⟨c, A, r⟩ := F; exact ⟨c, A.other W q, r⟩
theorem AI.keep {h' : Heap} {a : Addr} {ws : List Addr} {ty : FieldType} {vs : List Value} (F : AI Z h a ty vs) (K : Keep h h' ws) (q : a ∉ ws) : AI Z h' a ty vs := by obtain ⟨c, A, r⟩ := F; exact ⟨c, ⟨K.2.1 a c A.1 q, A.2⟩, r⟩
theorem AI.same {h' : Heap} {a : Addr} {i : Nat} {v : Value} {ty : FieldType} {vs : List Value} (F : AI Z h a ty vs) (W : Wr h h' a i v) : AI Z h' a ty (vs.set i v) := by
  obtain ⟨c, A, r⟩ := F; exact ⟨_, A.same W, by simp [Cell.setSlot, r]⟩
theorem ne_AI {a b : Addr} {K : String} {kk : Nat} {ty : FieldType} {vs : List Value} (E : Exa Z h a K) (wi : (Jvm.Cond.instantiable K kk).before a0 Z = true) (F : AI Z h b ty vs) : a ≠ b := by obtain ⟨c, A, -⟩ := F; exact ne_arr E wi A
theorem own_nat {j : Int32} {i : Nat} (hj : j.toInt = i) : j.toNatClampNeg = i ∧ ¬ j < 0 := by
  have h2 : ¬ j < 0 := by rw [Int32.lt_iff_toInt_lt, z32]; omega
  have h3 := nat_of h2
  exact ⟨by omega, h2⟩
theorem own_in {c : Cell} {j : Int32} {i : Nat} {vs : List Value} (hj : j.toInt = i) (hc : c.slots = vs.toArray) (hi : i < vs.length) : ¬ (j < 0 ∨ c.slots.size ≤ j.toNatClampNeg) := by
  obtain ⟨h1, h2⟩ := own_nat hj
  rintro (h3 | h3)
  · exact h2 h3
  · rw [hc, h1] at h3; simp at h3; omega
theorem own_at {c : Cell} {j : Int32} {i : Nat} {vs : List Value} {v : Value} (hj : j.toInt = i) (hc : c.slots = vs.toArray) (hv : vs[i]? = some v) : c.slots[j.toNatClampNeg]? = some v := by
  rw [(own_nat hj).1, hc]; simpa using hv
theorem own_bd {i : Nat} {vs : List Value} {v : Value} (hv : vs[i]? = some v) : i < vs.length := (List.getElem?_eq_some_iff.mp hv).1
theorem Ok.newarray (C : Cx W Z own nm bc maxL rt) {aty : ArrayType} {ty : FieldType} {z : Int32} (w : (Jvm.Cond.arrayClass ty).before a0 Z = true) (hd : decode bc pc = .ok (.newarray aty, 2)) (hty : newarray.typeOf aty = ty) (i : Nat) (hz : z.toInt = i) (hb' : i * 8 ≤ 536870912) (cap : Nat) (hcap : i ≤ cap) (hb2 : cap * 8 ≤ 536870912) (hc : k + 1 ≤ R.cells) (hl : n + cap ≤ R.slots) (q : Nat) (hq : pc + 2 = q)
    (g : ∀ h' a, a = h.size → Ext h h' → AI Z h' a ty (List.replicate i (defaultValue ty)) → Ok W R n0 Q h' (k + 1) (n + cap) q Ls (.ref a :: st)) : Ok W R n0 Q h k n pc Ls (.int z :: st) := fun T locs X e N => by
  subst hq hty
  obtain ⟨z1, z2⟩ := own_nat hz
  obtain ⟨T', h', cA, X', e', E', A', st'⟩ := newP X C.1 C.2.1 w e (g := mkF W.m pc Ls.toArray (.int z :: st)) rfl (hb C.2.2.1 hd) rfl z2 (cap := cap) (by omega) hb2 hc hl
  obtain ⟨s₂, o, S, r⟩ := g h' _ rfl E' ⟨_, A', by simp [newA, z1]⟩ T' _ X' e' N
  exact ⟨s₂, o, st' _ S, r⟩
theorem Ok.arraylength (C : Cx W Z own nm bc maxL rt) {a : Addr} {ty : FieldType} {vs : List Value} (hd : decode bc pc = .ok (.arraylength, 1)) (F : AI Z h a ty vs) (z : Int32) (hz : vs.length.toInt32 = z) (q : Nat) (hq : pc + 1 = q) (g : Ok W R n0 Q h k n q Ls (.int z :: st)) : Ok W R n0 Q h k n pc Ls (.ref a :: st) := by
  subst hq hz
  obtain ⟨c, A, hc⟩ := F
  have hs : c.slots.size = vs.length := by rw [hc]; simp
  rw [← hs] at g
  exact g.back fun T locs X e t s => X.arraylength C.1 (by rw [e]; exact A.1) (State.isArrayOf_alike C.2.1.alike A.2.1) (g := mkF W.m pc Ls.toArray (.ref a :: st)) rfl rfl (hb C.2.2.1 hd) t s
theorem Ok.iaload (C : Cx W Z own nm bc maxL rt) {a : Addr} {j : Int32} {v : Value} {vs : List Value} (hd : decode bc pc = .ok (.iaload, 1)) (F : AI Z h a .int vs) (i : Nat) (hj : j.toInt = i) (hv : vs[i]? = some v) (q : Nat) (hq : pc + 1 = q) (g : Ok W R n0 Q h k n q Ls (v :: st)) : Ok W R n0 Q h k n pc Ls (.int j :: .ref a :: st) := by
  subst hq
  obtain ⟨c, A, hc⟩ := F
  exact g.back fun T locs X e t s => X.iaload C.1 (j := j) (v := v) (by rw [e]; exact A.1) (State.isArrayOf_alike C.2.1.alike A.2.1) A.2.2 (own_in hj hc (own_bd hv)) (own_at hj hc hv) (g := mkF W.m pc Ls.toArray (.int j :: .ref a :: st)) rfl rfl (hb C.2.2.1 hd) t s
theorem Ok.laload (C : Cx W Z own nm bc maxL rt) {a : Addr} {j : Int32} {v : Value} {vs : List Value} (hd : decode bc pc = .ok (.laload, 1)) (F : AI Z h a .long vs) (i : Nat) (hj : j.toInt = i) (hv : vs[i]? = some v) (q : Nat) (hq : pc + 1 = q) (g : Ok W R n0 Q h k n q Ls (v :: st)) : Ok W R n0 Q h k n pc Ls (.int j :: .ref a :: st) := by
  subst hq
  obtain ⟨c, A, hc⟩ := F
  exact g.back fun T locs X e t s => X.laload C.1 (j := j) (v := v) (by rw [e]; exact A.1) (State.isArrayOf_alike C.2.1.alike A.2.1) A.2.2 (own_in hj hc (own_bd hv)) (own_at hj hc hv) (g := mkF W.m pc Ls.toArray (.int j :: .ref a :: st)) rfl rfl (hb C.2.2.1 hd) t s
theorem Ok.baload (C : Cx W Z own nm bc maxL rt) {a : Addr} {j : Int32} {v : Value} {vs : List Value} (hd : decode bc pc = .ok (.baload, 1)) (F : AI Z h a .byte vs) (i : Nat) (hj : j.toInt = i) (hv : vs[i]? = some v) (q : Nat) (hq : pc + 1 = q) (g : Ok W R n0 Q h k n q Ls (v :: st)) : Ok W R n0 Q h k n pc Ls (.int j :: .ref a :: st) := by
  subst hq
  obtain ⟨c, A, hc⟩ := F
  exact g.back fun T locs X e t s => X.baloadBytes C.1 (j := j) (v := v) (by rw [e]; exact A.1) (State.isArrayOf_alike C.2.1.alike A.2.1) A.2.2 (own_in hj hc (own_bd hv)) (own_at hj hc hv) (g := mkF W.m pc Ls.toArray (.int j :: .ref a :: st)) rfl rfl (hb C.2.2.1 hd) t s
theorem Ok.zaload (C : Cx W Z own nm bc maxL rt) {a : Addr} {j : Int32} {v : Value} {vs : List Value} (hd : decode bc pc = .ok (.baload, 1)) (F : AI Z h a .boolean vs) (i : Nat) (hj : j.toInt = i) (hv : vs[i]? = some v) (q : Nat) (hq : pc + 1 = q) (g : Ok W R n0 Q h k n q Ls (v :: st)) : Ok W R n0 Q h k n pc Ls (.int j :: .ref a :: st) := by
  subst hq
  obtain ⟨c, A, hc⟩ := F
  exact g.back fun T locs X e t s => X.baloadBooleans C.1 (j := j) (v := v) (by rw [e]; exact A.1) (State.isArrayOf_alike C.2.1.alike A.2.1) A.2.2 (own_in hj hc (own_bd hv)) (own_at hj hc hv) (g := mkF W.m pc Ls.toArray (.int j :: .ref a :: st)) rfl rfl (hb C.2.2.1 hd) t s
theorem Ok.iastore (C : Cx W Z own nm bc maxL rt) {a : Addr} {j : Int32} {x : Int32} {vs : List Value} (hd : decode bc pc = .ok (.iastore, 1)) (F : AI Z h a .int vs) (i : Nat) (hj : j.toInt = i) (hi : i < vs.length) (hN : n0 ≤ a) (q : Nat) (hq : pc + 1 = q) (g : ∀ h', Wr h h' a i (.int x) → AI Z h' a .int (vs.set i (.int x)) → Ok W R n0 Q h' k n q Ls st) : Ok W R n0 Q h k n pc Ls (.int x :: .int j :: .ref a :: st) := fun T locs X e N => by
  subst hq
  obtain ⟨c, A, hc⟩ := F
  obtain ⟨T', h', X', e', Wr', st'⟩ := stI X C.1 C.2.1 e A (j := j) (x := x) (own_in hj hc hi) (g := mkF W.m pc Ls.toArray (.int x :: .int j :: .ref a :: st)) rfl rfl (hb C.2.2.1 hd)
  have N' := Fr.snoc X' N hN
  rw [(own_nat hj).1] at Wr'
  obtain ⟨s₂, o, S, r⟩ := g h' Wr' (AI.same ⟨c, A, hc⟩ Wr') T' _ X' e' N'
  exact ⟨s₂, o, st' _ S, r⟩
theorem Ok.lastore (C : Cx W Z own nm bc maxL rt) {a : Addr} {j : Int32} {x : Int64} {vs : List Value} (hd : decode bc pc = .ok (.lastore, 1)) (F : AI Z h a .long vs) (i : Nat) (hj : j.toInt = i) (hi : i < vs.length) (hN : n0 ≤ a) (q : Nat) (hq : pc + 1 = q) (g : ∀ h', Wr h h' a i (.long x) → AI Z h' a .long (vs.set i (.long x)) → Ok W R n0 Q h' k n q Ls st) : Ok W R n0 Q h k n pc Ls (.long x :: .int j :: .ref a :: st) := fun T locs X e N => by
  subst hq
  obtain ⟨c, A, hc⟩ := F
  obtain ⟨T', h', X', e', Wr', st'⟩ := stJ X C.1 C.2.1 e A (j := j) (x := x) (own_in hj hc hi) (g := mkF W.m pc Ls.toArray (.long x :: .int j :: .ref a :: st)) rfl rfl (hb C.2.2.1 hd)
  have N' := Fr.snoc X' N hN
  rw [(own_nat hj).1] at Wr'
  obtain ⟨s₂, o, S, r⟩ := g h' Wr' (AI.same ⟨c, A, hc⟩ Wr') T' _ X' e' N'
  exact ⟨s₂, o, st' _ S, r⟩
theorem Ok.bastore (C : Cx W Z own nm bc maxL rt) {a : Addr} {j : Int32} {x : Int32} {vs : List Value} (hd : decode bc pc = .ok (.bastore, 1)) (F : AI Z h a .byte vs) (i : Nat) (hj : j.toInt = i) (hi : i < vs.length) (hN : n0 ≤ a) (q : Nat) (hq : pc + 1 = q) (g : ∀ h', Wr h h' a i (.int (x.toInt8.toInt32)) → AI Z h' a .byte (vs.set i (.int (x.toInt8.toInt32))) → Ok W R n0 Q h' k n q Ls st) : Ok W R n0 Q h k n pc Ls (.int x :: .int j :: .ref a :: st) := fun T locs X e N => by
  subst hq
  obtain ⟨c, A, hc⟩ := F
  obtain ⟨T', h', X', e', Wr', st'⟩ := stB X C.1 C.2.1 e A (j := j) (x := x) (own_in hj hc hi) (g := mkF W.m pc Ls.toArray (.int x :: .int j :: .ref a :: st)) rfl rfl (hb C.2.2.1 hd)
  have N' := Fr.snoc X' N hN
  rw [(own_nat hj).1] at Wr'
  obtain ⟨s₂, o, S, r⟩ := g h' Wr' (AI.same ⟨c, A, hc⟩ Wr') T' _ X' e' N'
  exact ⟨s₂, o, st' _ S, r⟩
theorem Ok.zastore (C : Cx W Z own nm bc maxL rt) {a : Addr} {j : Int32} {x : Int32} {vs : List Value} (hd : decode bc pc = .ok (.bastore, 1)) (F : AI Z h a .boolean vs) (i : Nat) (hj : j.toInt = i) (hi : i < vs.length) (hN : n0 ≤ a) (q : Nat) (hq : pc + 1 = q) (g : ∀ h', Wr h h' a i (.int (x &&& 1)) → AI Z h' a .boolean (vs.set i (.int (x &&& 1))) → Ok W R n0 Q h' k n q Ls st) : Ok W R n0 Q h k n pc Ls (.int x :: .int j :: .ref a :: st) := fun T locs X e N => by
  subst hq
  obtain ⟨c, A, hc⟩ := F
  obtain ⟨T', h', X', e', Wr', st'⟩ := stZ X C.1 C.2.1 e A (j := j) (x := x) (own_in hj hc hi) (g := mkF W.m pc Ls.toArray (.int x :: .int j :: .ref a :: st)) rfl rfl (hb C.2.2.1 hd)
  have N' := Fr.snoc X' N hN
  rw [(own_nat hj).1] at Wr'
  obtain ⟨s₂, o, S, r⟩ := g h' Wr' (AI.same ⟨c, A, hc⟩ Wr') T' _ X' e' N'
  exact ⟨s₂, o, st' _ S, r⟩
/-! the end -/
theorem Ok.fin {T : State} {locs : List Loc} {v : Option Value} (C : Cx W Z own nm bc maxL rt) (hv : rt = none → v = none) (X : Stand W.p W.l W.e R W.s W.m W.args W.below W.meth W.c T locs k n) (e : T.heap = h) (N : Fr n0 locs) (hk : k ≤ R.cells) (hn : n ≤ R.slots) (hQ : Q v h) {f : State}
    (hst : ∀ fs, (∀ (f : JFrame) (acts : List Action), f.method = W.m → f.locked = none → f.entered = [] → (doReturn W.e (T.setTop f) acts v).1 = T.setFrames fs) → Steps W.p.tables W.e W.below f (T.setFrames fs)) :
    ∃ s₂ o, Steps W.p.tables W.e W.below f s₂ ∧ s₂.status = .running ∧ Ended s₂ W.below o ∧ ∃ v L, o = .returned v ∧ (Q v s₂.heap ∧ Fr n0 L) ∧ FrameEnd W.s o s₂ L R.cells R.slots := by
  obtain ⟨fs, hr, hrun, hended, hW, hsame⟩ := X.leave (v := v) (fun z => hv (C.2.2.2.2.2.1.symm.trans z)) C.2.2.2.2.2.2.1
  have hQ' : Q v (T.setFrames fs).heap := by show Q v T.heap; rw [e]; exact hQ
  exact ⟨_, _, hst fs hr, hrun, hended, _, _, rfl, ⟨hQ', N⟩, ⟨_, rfl⟩, hW, hsame.mono hk hn⟩
theorem Ok.ireturn (C : Cx W Z own nm bc maxL (some .int)) {x : Int32} (hd : decode bc pc = .ok (.ireturn, 1)) (hk : k ≤ R.cells) (hn : n ≤ R.slots) (hQ : Q (some (.int x)) h) : Ok W R n0 Q h k n pc Ls (.int x :: st) := fun T locs X e N =>
  Ok.fin C (fun z => by cases z) X e N hk hn hQ fun fs hr => retOut X C.1 C.2.2.2.2.2.1 rfl (Or.inl ⟨rfl, Or.inl rfl, _, rfl⟩) (hb C.2.2.1 hd) hr
theorem Ok.zreturn (C : Cx W Z own nm bc maxL (some .boolean)) {x : Int32} (hd : decode bc pc = .ok (.ireturn, 1)) (hk : k ≤ R.cells) (hn : n ≤ R.slots) (hQ : Q (some (.int (x &&& 1))) h) : Ok W R n0 Q h k n pc Ls (.int x :: st) := fun T locs X e N =>
  Ok.fin C (fun z => by cases z) X e N hk hn hQ fun fs hr => retN X C.1 (t := .boolean) C.2.2.2.2.2.1 (Or.inl rfl) (hb C.2.2.1 hd) hr
theorem Ok.lreturn (C : Cx W Z own nm bc maxL (some .long)) {x : Int64} (hd : decode bc pc = .ok (.lreturn, 1)) (hk : k ≤ R.cells) (hn : n ≤ R.slots) (hQ : Q (some (.long x)) h) : Ok W R n0 Q h k n pc Ls (.long x :: st) := fun T locs X e N =>
  Ok.fin C (fun z => by cases z) X e N hk hn hQ fun fs hr => retOut X C.1 C.2.2.2.2.2.1 rfl (Or.inr (Or.inl ⟨rfl, rfl, _, rfl⟩)) (hb C.2.2.1 hd) hr
theorem Ok.vreturn (C : Cx W Z own nm bc maxL none) (hd : decode bc pc = .ok (.return_, 1)) (hk : k ≤ R.cells) (hn : n ≤ R.slots) (hQ : Q none h) : Ok W R n0 Q h k n pc Ls [] := fun T locs X e N =>
  Ok.fin C (fun _ => rfl) X e N hk hn hQ fun fs hr => X.returnOut C.1 C.2.2.2.2.2.1 (hb C.2.2.1 hd) hr
/-! calls -/
/-- the method y, called with as' over the heap h, returns with Q -/
def Does (l : Launch) (Z : State) (y : MethodName) (bytes : ByteArray) (mL : Nat) (rt : Option FieldType) (rm : Room) (as' : Array Value) (h : Heap) (n0 : Nat) (Q : Option Value → Heap → Prop) : Prop :=
  MetFree l y (head1 [Jvm.Cond.code y bytes mL rt] rm) (fun a U => a = as' ∧ Z.Warmed39 U.vm ∧ U.heap = h) (fun _ _ _ _ _ => True) (fun _ U o U' => ∃ v L, o = .returned v ∧ (Q v U'.heap ∧ Fr n0 L) ∧ FrameEnd U o U' L rm.cells rm.slots)
def DoesW (l : Launch) (Z : State) (y : MethodName) (bytes : ByteArray) (mL : Nat) (rt : Option FieldType) (rm : Room) (ws : List Jvm.Cond) (as' : Array Value) (h : Heap) (n0 : Nat) (Q : Option Value → Heap → Prop) : Prop :=
  MetFree l y (head1 (Jvm.Cond.code y bytes mL rt :: ws) rm) (fun a U => a = as' ∧ Z.Warmed39 U.vm ∧ U.heap = h) (fun _ _ _ _ _ => True) (fun _ U o U' => ∃ v L, o = .returned v ∧ (Q v U'.heap ∧ Fr n0 L) ∧ FrameEnd U o U' L rm.cells rm.slots)
theorem DoesW.of_body {l : Launch} {y : MethodName} {bytes : ByteArray} {mL : Nat} {rm : Room} {ws : List Jvm.Cond} {as' : Array Value} (hpl : plainFor y = true) (Ls0 : List Slot) (ef : ∀ m, entryFrame m as' mL = mkF m 0 Ls0.toArray [])
    (g : ∀ W : Wd, W.l = l → Cx W Z y.cls y.name bytes mL rt → Ok W rm n0 Q h 0 0 0 Ls0 []) : DoesW l Z y bytes mL rt rm ws as' h n0 Q := by
  unfold DoesW
  refine MetFree.of_bodySF hpl hisR ?_
  intro p e s m args below meth c s₁ Bd hml0 hP hK
  obtain ⟨rfl, hZ, hh⟩ := hP
  have X0 : Stand p l e rm s m args below meth c s₁ [] 0 0 := Stand.of_body Bd
  have e0 : s₁.heap = h := by rw [← hh, Bd.state]; rfl
  obtain ⟨s₂, o, S, r⟩ := g (p, l, e, s, m, args, below, meth, c) rfl ⟨Bd.exec, hZ, Bd.bytes, hml0, findClass_of_methodNamed Bd.named, Bd.returns, Bd.notSynchronized, (name_of_methodNamed Bd.named Bd.method).1⟩ s₁ [] X0 e0 (Fr.nil n0)
  exact ⟨s₂, o, castTop (ef m) S, r⟩
theorem Does.of_body {l : Launch} {y : MethodName} {bytes : ByteArray} {mL : Nat} {rm : Room} {as' : Array Value} (hpl : plainFor y = true) (Ls0 : List Slot) (ef : ∀ m, entryFrame m as' mL = mkF m 0 Ls0.toArray [])
    (g : ∀ W : Wd, W.l = l → Cx W Z y.cls y.name bytes mL rt → Ok W rm n0 Q h 0 0 0 Ls0 []) : Does l Z y bytes mL rt rm as' h n0 Q := DoesW.of_body (ws := []) hpl Ls0 ef g
theorem own_after {v : Option Value} {q : Nat} {rest : List Value} {rm : Room} {T : State} {locs L : List Loc} {h' : Heap} (g : Ok W R n0 Q h' (k + rm.cells) (n + rm.slots) q Ls (v.toList ++ rest)) (N : Fr n0 locs) (N' : Fr n0 L) (X : Stand W.p W.l W.e R W.s W.m W.args W.below W.meth W.c T (locs ++ L) (k + rm.cells) (n + rm.slots)) (e : T.heap = h') :
    ∃ s₂ o, Steps W.p.tables W.e W.below (T.setTop (mkF W.m q Ls.toArray (v.toList ++ rest))) s₂ ∧ s₂.status = .running ∧ Ended s₂ W.below o ∧ ∃ v L, o = .returned v ∧ (Q v s₂.heap ∧ Fr n0 L) ∧ FrameEnd W.s o s₂ L R.cells R.slots := g T _ X e (N.app N')
theorem Ok.callStatic (C : Cx W Z own nm bc maxL rt) {i : Nat} {y : MethodName} {bytes : ByteArray} {mL : Nat} {rt' : Option FieldType} {rm : Room} {ps : List FieldType} {Q' : Option Value → Heap → Prop} (argsL rest : List Value) (hs : st = argsL.reverse ++ rest)
    (w1 : (Jvm.Cond.methodLink own i y).before a0 Z = true) (w2 : (Jvm.Cond.static y).before a0 Z = true) (w3 : (Jvm.Cond.initialized y.cls).before a0 Z = true) (w4 : (Jvm.Cond.code y bytes mL rt').before a0 Z = true) (hd : decode bc pc = .ok (.invokestatic i, 3))
    (hm : y.cls ≠ "java/lang/invoke/MethodHandle" ∧ y.cls ≠ "java/lang/invoke/VarHandle") (pd : parseMethodDescriptor y.desc = some ⟨ps, rt'⟩) (hlen : argsL.length = ps.length) (hsz : Ls.length = maxL)
    (D : Does W.l Z y bytes mL rt' rm argsL.toArray h n0 Q') (hf : rm.frames + 1 ≤ R.frames) (wt : Nat) (hwt : (rest.map fun v => v.category).sum = wt) (hl : wt + (mL + 11) + rm.locals ≤ R.locals) (hc : k + rm.cells ≤ R.cells) (hsl : n + rm.slots ≤ R.slots) (q : Nat) (hq : pc + 3 = q)
    (g : ∀ v h', Q' v h' → Ok W R n0 Q h' (k + rm.cells) (n + rm.slots) q Ls (v.toList ++ rest)) : Ok W R n0 Q h k n pc Ls st := fun T locs X e N => by
  subst hq hs
  obtain ⟨v, vm1, ⟨T', L', k', n'⟩, -, X', ⟨Lc, hQ, l1, y1, z1⟩, st'⟩ := Jvm.LawKit.callS X C.1 (y := y) C.2.2.2.2.1 (mvT C.2.1 w1) (mvT C.2.1 w2) (mvT C.2.1 w3) (mvT C.2.1 w4) hm (backOf (W := wt) (R := R) (Q := fun v h L => Q' v h ∧ Fr n0 L) D C.2.1 w4 w3 hf hl) (g := mkF W.m pc Ls.toArray (argsL.reverse ++ rest)) rfl (by rw [C.2.2.2.1, ← hsz]; simp) (argsL := argsL) (rest := rest) (lenOf pd hlen) rfl (by show 2 * 0 + _ ≤ _; omega) (hb C.2.2.1 hd) (fun _ _ => ⟨rfl, e, hc, hsl⟩)
  dsimp only [Pt.U, Pt.locs, Pt.cells, Pt.slots] at X' l1 y1 z1 st' hQ
  subst l1 y1 z1
  obtain ⟨s₂, o, S, r⟩ := own_after (g v _ hQ.1) N hQ.2 X' rfl
  exact ⟨s₂, o, st' _ S, r⟩
theorem Ok.callInit (C : Cx W Z own nm bc maxL rt) {i : Nat} {y : MethodName} {bytes : ByteArray} {mL : Nat} {rm : Room} {ps : List FieldType} {Q' : Option Value → Heap → Prop} {a : Addr} (argsL rest : List Value) (hs : st = argsL.reverse ++ .ref a :: rest) (hy1 : y.name = "<init>")
    (w1 : (Jvm.Cond.methodLink own i y).before a0 Z = true) (w2 : (Jvm.Cond.instanceMethod y).before a0 Z = true) (w3 : (Jvm.Cond.initialized y.cls).before a0 Z = true) (w4 : (Jvm.Cond.code y bytes mL none).before a0 Z = true) (hd : decode bc pc = .ok (.invokespecial i, 3))
    (hm : y.cls ≠ "java/lang/invoke/MethodHandle" ∧ y.cls ≠ "java/lang/invoke/VarHandle") (pd : parseMethodDescriptor y.desc = some ⟨ps, none⟩) (hlen : argsL.length = ps.length) (hsz : Ls.length = maxL)
    (D : Does W.l Z y bytes mL none rm (.ref a :: argsL).toArray h n0 Q') (hf : rm.frames + 1 ≤ R.frames) (wt : Nat) (hwt : (rest.map fun v => v.category).sum = wt) (hl : wt + (mL + 11) + rm.locals ≤ R.locals) (hc : k + rm.cells ≤ R.cells) (hsl : n + rm.slots ≤ R.slots) (q : Nat) (hq : pc + 3 = q)
    (g : ∀ v h', Q' v h' → Ok W R n0 Q h' (k + rm.cells) (n + rm.slots) q Ls (v.toList ++ rest)) : Ok W R n0 Q h k n pc Ls st := fun T locs X e N => by
  subst hq hs
  obtain ⟨v, vm1, ⟨T', L', k', n'⟩, -, X', ⟨Lc, hQ, l1, y1, z1⟩, st'⟩ := X.specialBack C.1 (y := y) hy1 C.2.2.2.2.1 (mvT C.2.1 w1) (mvT C.2.1 w2) (mvT C.2.1 w4) hm (backOf (W := wt) (R := R) (Q := fun v h L => Q' v h ∧ Fr n0 L) D C.2.1 w4 w3 hf hl) (g := mkF W.m pc Ls.toArray (argsL.reverse ++ .ref a :: rest)) rfl (by rw [C.2.2.2.1, ← hsz]; simp) (Steps.refl _) (a := a) (argsL := argsL) (rest := rest) (lenOf pd hlen) rfl (by show 2 * 0 + _ ≤ _; omega) (hb C.2.2.1 hd) (fun _ _ => ⟨rfl, e, hc, hsl⟩)
  dsimp only [Pt.U, Pt.locs, Pt.cells, Pt.slots] at X' l1 y1 z1 st' hQ
  subst l1 y1 z1
  obtain ⟨s₂, o, S, r⟩ := own_after (g v _ hQ.1) N hQ.2 X' rfl
  exact ⟨s₂, o, st'.trans S, r⟩
theorem Ok.callVirtual (C : Cx W Z own nm bc maxL rt) {i : Nat} {y : MethodName} {bytes : ByteArray} {mL : Nat} {rt' : Option FieldType} {rm : Room} {ps : List FieldType} {Q' : Option Value → Heap → Prop} {a : Addr} (argsL rest : List Value) (hs : st = argsL.reverse ++ .ref a :: rest)
    (w1 : (Jvm.Cond.methodLink own i y).before a0 Z = true) (w2 : (Jvm.Cond.declares y).before a0 Z = true) (w5 : (Jvm.Cond.selects y.cls y y).before a0 Z = true) (w6 : (Jvm.Cond.instanceMethod y).before a0 Z = true) (w3 : (Jvm.Cond.initialized y.cls).before a0 Z = true) (w4 : (Jvm.Cond.code y bytes mL rt').before a0 Z = true) (hd : decode bc pc = .ok (.invokevirtual i, 3))
    (hm : y.cls ≠ "java/lang/invoke/MethodHandle" ∧ y.cls ≠ "java/lang/invoke/VarHandle") (pd : parseMethodDescriptor y.desc = some ⟨ps, rt'⟩) (hlen : argsL.length = ps.length) (hsz : Ls.length = maxL) (E : Exa Z h a y.cls)
    (D : Does W.l Z y bytes mL rt' rm (.ref a :: argsL).toArray h n0 Q') (hf : rm.frames + 1 ≤ R.frames) (wt : Nat) (hwt : (rest.map fun v => v.category).sum = wt) (hl : wt + (mL + 11) + rm.locals ≤ R.locals) (hc : k + rm.cells ≤ R.cells) (hsl : n + rm.slots ≤ R.slots) (q : Nat) (hq : pc + 3 = q)
    (g : ∀ v h', Q' v h' → Ok W R n0 Q h' (k + rm.cells) (n + rm.slots) q Ls (v.toList ++ rest)) : Ok W R n0 Q h k n pc Ls st := fun T locs X e N => by
  subst hq hs
  obtain ⟨cq, kq, qa, qb, qc⟩ := isOf (T := T) C.2.1 e E
  obtain ⟨v, vm1, ⟨T', L', k', n'⟩, -, X', ⟨Lc, hQ, l1, y1, z1⟩, st'⟩ := X.virtualBack C.1 (y := y) (z := y) C.2.2.2.2.1 (mvT C.2.1 w1) (mvT C.2.1 w2) (notFace_of_selects (args := #[]) (mvT C.2.1 w5)) (mvT C.2.1 w5) (mvT C.2.1 w6) hm (backOf (W := wt) (R := R) (Q := fun v h L => Q' v h ∧ Fr n0 L) D C.2.1 w4 w3 hf hl) qa qc (g := mkF W.m pc Ls.toArray (argsL.reverse ++ .ref a :: rest)) rfl (by rw [C.2.2.2.1, ← hsz]; simp) (Steps.refl _) (argsL := argsL) (rest := rest) (lenOf pd hlen) rfl (by show 2 * 0 + _ ≤ _; omega) (hb C.2.2.1 hd) (fun _ _ => ⟨rfl, e, hc, hsl⟩)
  dsimp only [Pt.U, Pt.locs, Pt.cells, Pt.slots] at X' l1 y1 z1 st' hQ
  subst l1 y1 z1
  obtain ⟨s₂, o, S, r⟩ := own_after (g v _ hQ.1) N hQ.2 X' rfl
  exact ⟨s₂, o, st'.trans S, r⟩
theorem own_selects {a : Array Value} {s : State} {y0 y : MethodName} (hs : (Jvm.Cond.selects y0.cls y0 y0).before a s = true) (hi : (Jvm.Cond.instanceMethod y).before a s = true) (hp : (Jvm.Cond.privateMethod y).before a s = true) (hc : y.cls = y0.cls) (hm : y.cls ≠ "java/lang/invoke/MethodHandle" ∧ y.cls ≠ "java/lang/invoke/VarHandle") : (Jvm.Cond.selects y.cls y y).before a s = true := by
  obtain ⟨c, r, m, h1, h2, h3, h4, kk, h5, h6⟩ := Cond.selects_spec hs
  obtain ⟨mk, methM, hn, hmm, -, -⟩ := Cond.instanceMethod_spec hi
  have e1 : s.vm.findClass y0.cls = some m.cls := findClass_of_methodNamed h3
  have e2 : s.vm.findClass y.cls = some mk.cls := findClass_of_methodNamed hn
  have e3 : mk.cls = m.cls := by rw [hc, e1] at e2; exact (Option.some.inj e2).symm
  have hf := State.methodFound?_of_named hn hm
  have hsel : selectMethod {} s.vm mk.cls mk = .method mk := selectMethod_private hmm (Cond.privateMethod_at hp mk methM hn hmm)
  have hk : s.vm.classes[mk.cls]? = some kk := by rw [e3]; exact h5
  simp [Cond.before, Cond.holds, Cond.value, e2, hf, hn, hsel, hk, h6]
theorem Ok.callPrivate (C : Cx W Z own nm bc maxL rt) {i : Nat} {y y0 : MethodName} {bytes : ByteArray} {mL : Nat} {rt' : Option FieldType} {rm : Room} {ps : List FieldType} {Q' : Option Value → Heap → Prop} {a : Addr} (argsL rest : List Value) (hs : st = argsL.reverse ++ .ref a :: rest)
    (w1 : (Jvm.Cond.methodLink own i y).before a0 Z = true) (w6 : (Jvm.Cond.instanceMethod y).before a0 Z = true) (w7 : (Jvm.Cond.privateMethod y).before a0 Z = true) (w5 : (Jvm.Cond.selects y0.cls y0 y0).before a0 Z = true) (hcc : y.cls = y0.cls) (w3 : (Jvm.Cond.initialized y.cls).before a0 Z = true) (w4 : (Jvm.Cond.code y bytes mL rt').before a0 Z = true) (hd : decode bc pc = .ok (.invokevirtual i, 3))
    (hm : y.cls ≠ "java/lang/invoke/MethodHandle" ∧ y.cls ≠ "java/lang/invoke/VarHandle") (pd : parseMethodDescriptor y.desc = some ⟨ps, rt'⟩) (hlen : argsL.length = ps.length) (hsz : Ls.length = maxL) (E : Exa Z h a y.cls)
    (D : Does W.l Z y bytes mL rt' rm (.ref a :: argsL).toArray h n0 Q') (hf : rm.frames + 1 ≤ R.frames) (wt : Nat) (hwt : (rest.map fun v => v.category).sum = wt) (hl : wt + (mL + 11) + rm.locals ≤ R.locals) (hc : k + rm.cells ≤ R.cells) (hsl : n + rm.slots ≤ R.slots) (q : Nat) (hq : pc + 3 = q)
    (g : ∀ v h', Q' v h' → Ok W R n0 Q h' (k + rm.cells) (n + rm.slots) q Ls (v.toList ++ rest)) : Ok W R n0 Q h k n pc Ls st := fun T locs X e N => by
  subst hq hs
  obtain ⟨cq, q1, q2⟩ := E.cell
  obtain ⟨v, vm1, ⟨T', L', k', n'⟩, -, X', ⟨Lc, hQ, l1, y1, z1⟩, st'⟩ := X.privateBack C.1 (y := y) C.2.2.2.2.1 (mvT C.2.1 w1) (mvT C.2.1 w6) (mvT C.2.1 (own_selects w5 w6 w7 hcc hm)) (Cond.privateMethod_at (mvP C.2.1 w7 (args := #[]))) (mvT C.2.1 w4) hm (backOf (W := wt) (R := R) (Q := fun v h L => Q' v h ∧ Fr n0 L) D C.2.1 w4 w3 hf hl) (g := mkF W.m pc Ls.toArray (argsL.reverse ++ .ref a :: rest)) rfl (by rw [C.2.2.2.1, ← hsz]; simp) (Steps.refl _) (a := a) (by rw [e]; exact q1) q2 (argsL := argsL) (rest := rest) (lenOf pd hlen) rfl (by show 2 * 0 + _ ≤ _; omega) (hb C.2.2.1 hd) (fun _ _ => ⟨rfl, e, hc, hsl⟩)
  dsimp only [Pt.U, Pt.locs, Pt.cells, Pt.slots] at X' l1 y1 z1 st' hQ
  subst l1 y1 z1
  obtain ⟨s₂, o, S, r⟩ := own_after (g v _ hQ.1) N hQ.2 X' rfl
  exact ⟨s₂, o, st'.trans S, r⟩
/-! numbers -/
theorem own_add {t x y : Int32} (e : t = x + y) (h1 : -2147483648 ≤ x.toInt + y.toInt) (h2 : x.toInt + y.toInt < 2147483648) : t.toInt = x.toInt + y.toInt := by
  have := c_iadd x y; have := rng32 (x + y); subst e; omega
theorem own_sub {t x y : Int32} (e : t = x - y) (h1 : -2147483648 ≤ x.toInt - y.toInt) (h2 : x.toInt - y.toInt < 2147483648) : t.toInt = x.toInt - y.toInt := by
  have := c_isub x y; have := rng32 (x - y); subst e; omega
theorem own_lsub {t x y : Int64} (e : t = x - y) (h1 : -9223372036854775808 ≤ x.toInt - y.toInt) (h2 : x.toInt - y.toInt < 9223372036854775808) : t.toInt = x.toInt - y.toInt := by
  have := c_lsub x y; have := rng64 (x - y); subst e; omega
theorem own_ladd {t x y : Int64} (e : t = x + y) (h1 : -9223372036854775808 ≤ x.toInt + y.toInt) (h2 : x.toInt + y.toInt < 9223372036854775808) : t.toInt = x.toInt + y.toInt := by
  have := c_ladd x y; have := rng64 (x + y); subst e; omega
theorem own_one : (1 &&& 1 : Int32) = 1 := rfl
theorem own_zero : (0 &&& 1 : Int32) = 0 := rfl
end Own
theorem own_w {Z : State} {a0 : Array Value} (hw : ∀ d ∈ tables_1, d.before a0 Z = true) (i : Nat) {d : Jvm.Cond} (e : tables_1[i]? = some d) : d.before a0 Z = true := hw d (List.mem_of_getElem? e)
theorem own_nz {y : Int32} (h : y.toInt ≠ 0) : y ≠ 0 := fun e => h (by rw [e]; rfl)

theorem d2_0 : decode jdk_29_method_65_code 0 = .ok (.iload_n 0, 1) := by decide +kernel
theorem d2_1 : decode jdk_29_method_65_code 1 = .ok (.iload_n 1, 1) := by decide +kernel
theorem d2_2 : decode jdk_29_method_65_code 2 = .ok (.if_icmp .lt 7, 3) := by decide +kernel
theorem d2_5 : decode jdk_29_method_65_code 5 = .ok (.iload_n 0, 1) := by decide +kernel
theorem d2_6 : decode jdk_29_method_65_code 6 = .ok (.goto 4, 3) := by decide +kernel
theorem d2_9 : decode jdk_29_method_65_code 9 = .ok (.iload_n 1, 1) := by decide +kernel
theorem d2_10 : decode jdk_29_method_65_code 10 = .ok (.ireturn, 1) := by decide +kernel
theorem pn_2 : plainFor (⟨"java/lang/Math", "max", "(II)I"⟩ : MethodName) = true := by first | exact plainFor_of_name (by first | (simp [plainName, overriddenIn]; done) | decide +kernel) | decide +kernel
set_option maxRecDepth 65536 in
set_option maxHeartbeats 40000000 in
theorem rm_2 (l : Launch) (Z : State) (a0 : Array Value) (hw : ∀ d ∈ tables_1, d.before a0 Z = true) (p0 p1 : Int32) (h : Heap) (n0 : Nat) (Z0 : n0 ≤ h.size)  :
    Does l Z (⟨"java/lang/Math", "max", "(II)I"⟩ : MethodName) jdk_29_method_65_code 2 (some .int) ({ frames := 0, cells := 0, slots := 0, locals := 0 } : Room) #[(.int p0), (.int p1)] h n0 (fun v h' => h = h' ∧ ∃ r : Int32, v = some (.int r) ∧ (r.toInt = p0.toInt ∧ p1.toInt ≤ p0.toInt ∨ r.toInt = p1.toInt ∧ p0.toInt ≤ p1.toInt)) := by
  refine Does.of_body pn_2 [.val (.int p0), .val (.int p1)] (fun m => by first | (simp [entryFrame, mkF, argsToLocals, Value.category]; done) | rfl) ?_
  intro W hWl cx
  subst hWl
  have cx : Cx W Z "java/lang/Math" "max" jdk_29_method_65_code 2 (some .int) := cx
  refine Ok.iloadN cx d2_0 rfl 1 rfl ?_
  refine Ok.iloadN cx d2_1 rfl 2 rfl ?_
  refine Ok.icmp_lt cx d2_2 9 5 (by decide) rfl (fun c2 => ?_) (fun c2 => ?_)
  · skip
    refine Ok.iloadN cx d2_9 rfl 10 rfl ?_
    exact Ok.ireturn cx d2_10 (by decide) (by decide) ⟨rfl, _, rfl, by omega⟩
  · skip
    refine Ok.iloadN cx d2_5 rfl 6 rfl ?_
    refine Ok.goto cx d2_6 10 (by decide) ?_
    exact Ok.ireturn cx d2_10 (by decide) (by decide) ⟨rfl, _, rfl, by omega⟩
theorem d1_0 : decode method_2_code 0 = .ok (.lload_n 0, 1) := by decide +kernel
theorem d1_1 : decode method_2_code 1 = .ok (.bipush 32, 2) := by decide +kernel
theorem d1_3 : decode method_2_code 3 = .ok (.lushr, 1) := by decide +kernel
theorem d1_4 : decode method_2_code 4 = .ok (.l2i, 1) := by decide +kernel
theorem d1_5 : decode method_2_code 5 = .ok (.istore_n 2, 1) := by decide +kernel
theorem d1_6 : decode method_2_code 6 = .ok (.iload_n 2, 1) := by decide +kernel
theorem d1_7 : decode method_2_code 7 = .ok (.ifCond .ge 9, 3) := by decide +kernel
theorem d1_10 : decode method_2_code 10 = .ok (.iload_n 2, 1) := by decide +kernel
theorem d1_11 : decode method_2_code 11 = .ok (.iconst 3, 1) := by decide +kernel
theorem d1_12 : decode method_2_code 12 = .ok (.iand, 1) := by decide +kernel
theorem d1_13 : decode method_2_code 13 = .ok (.iconst 1, 1) := by decide +kernel
theorem d1_14 : decode method_2_code 14 = .ok (.iadd, 1) := by decide +kernel
theorem d1_15 : decode method_2_code 15 = .ok (.ireturn, 1) := by decide +kernel
theorem d1_16 : decode method_2_code 16 = .ok (.iconst 1, 1) := by decide +kernel
theorem d1_17 : decode method_2_code 17 = .ok (.iload_n 2, 1) := by decide +kernel
theorem d1_18 : decode method_2_code 18 = .ok (.invokestatic 7, 3) := by decide +kernel
theorem d1_21 : decode method_2_code 21 = .ok (.ireturn, 1) := by decide +kernel
theorem pn_1 : plainFor (⟨"com/example/leeway/leeway/model/ListedTuplesNextTuplePinLaw", "size", "(J)I"⟩ : MethodName) = true := by first | exact plainFor_of_name (by first | (simp [plainName, overriddenIn]; done) | decide +kernel) | decide +kernel
theorem pd_0 : parseMethodDescriptor "(II)I" = some ⟨[.int, .int], some .int⟩ := by decide +kernel
set_option maxRecDepth 65536 in
set_option maxHeartbeats 40000000 in
theorem rm_1 (l : Launch) (Z : State) (a0 : Array Value) (hw : ∀ d ∈ tables_1, d.before a0 Z = true) (p0 : Int64) (h : Heap) (n0 : Nat) (Z0 : n0 ≤ h.size)  :
    Does l Z (⟨"com/example/leeway/leeway/model/ListedTuplesNextTuplePinLaw", "size", "(J)I"⟩ : MethodName) method_2_code 3 (some .int) ({ frames := 1, cells := 0, slots := 0, locals := 13 } : Room) #[(.long p0)] h n0 (fun v h' => h = h' ∧ ∃ r : Int32, v = some (.int r) ∧ 1 ≤ r.toInt) := by
  refine Does.of_body pn_1 [.val (.long p0), .second, .unset] (fun m => by first | (simp [entryFrame, mkF, argsToLocals, Value.category]; done) | rfl) ?_
  intro W hWl cx
  subst hWl
  have cx : Cx W Z "com/example/leeway/leeway/model/ListedTuplesNextTuplePinLaw" "size" method_2_code 3 (some .int) := cx
  have l32_32 : (32 : Int32).toInt = 32 := rfl
  have l32_3 : (3 : Int32).toInt = 3 := rfl
  have l32_1 : (1 : Int32).toInt = 1 := rfl
  refine Ok.lloadN cx d1_0 rfl 1 rfl ?_
  refine Ok.bipush cx d1_1 3 rfl (32 : Int32) rfl ?_
  refine Ok.lushr cx d1_3 4 rfl fun t3 e3 => ?_
  refine Ok.l2i cx d1_4 5 rfl fun t4 e4 => ?_
  refine Ok.istoreN cx d1_5 rfl One.u [.val (.long p0), .second, .val (.int t4)] rfl 6 rfl ?_
  refine Ok.iloadN cx d1_6 rfl 7 rfl ?_
  refine Ok.if_ge cx d1_7 16 10 (by decide) rfl (fun c7 => ?_) (fun c7 => ?_)
  · skip
    refine Ok.iconst cx d1_16 17 rfl (1 : Int32) rfl ?_
    refine Ok.iloadN cx d1_17 rfl 18 rfl ?_
    refine Ok.callStatic cx [(.int (1 : Int32)), (.int t4)] [] rfl (own_w hw 4 rfl) (own_w hw 5 rfl) (own_w hw 6 rfl) (own_w hw 7 rfl) d1_18 (by decide) pd_0 rfl rfl  (rm_2 W.l Z a0 hw (1 : Int32) t4 h n0 Z0) (by decide) 0 rfl (by decide) (by decide) (by decide) 21 rfl fun v18 h18_ q18 => ?_
    obtain ⟨rfl, r18, rfl, x18⟩ := q18
    show Ok _ _ _ _ _ _ _ _ _ [(.int r18)]
    exact Ok.ireturn cx d1_21 (by decide) (by decide) ⟨rfl, _, rfl, by omega⟩
  · skip
    refine Ok.iloadN cx d1_10 rfl 11 rfl ?_
    refine Ok.iconst cx d1_11 12 rfl (3 : Int32) rfl ?_
    refine Ok.iand cx d1_12 13 rfl fun t12 e12 => ?_
    refine Ok.iconst cx d1_13 14 rfl (1 : Int32) rfl ?_
    refine Ok.iadd cx d1_14 15 rfl fun t14 e14 => ?_
    have m12 := c_mask t4 3 2 (by decide) (by decide); rw [← e12] at m12
    have s14 := own_add e14 (by omega) (by omega)
    exact Ok.ireturn cx d1_15 (by decide) (by decide) ⟨rfl, _, rfl, by omega⟩
theorem d3_0 : decode method_3_code 0 = .ok (.lload_n 0, 1) := by decide +kernel
theorem d3_1 : decode method_3_code 1 = .ok (.l2i, 1) := by decide +kernel
theorem d3_2 : decode method_3_code 2 = .ok (.istore_n 3, 1) := by decide +kernel
theorem d3_3 : decode method_3_code 3 = .ok (.iload_n 3, 1) := by decide +kernel
theorem d3_4 : decode method_3_code 4 = .ok (.ifCond .ge 7, 3) := by decide +kernel
theorem d3_7 : decode method_3_code 7 = .ok (.iload_n 2, 1) := by decide +kernel
theorem d3_8 : decode method_3_code 8 = .ok (.iconst 1, 1) := by decide +kernel
theorem d3_9 : decode method_3_code 9 = .ok (.isub, 1) := by decide +kernel
theorem d3_10 : decode method_3_code 10 = .ok (.ireturn, 1) := by decide +kernel
theorem d3_11 : decode method_3_code 11 = .ok (.iload_n 3, 1) := by decide +kernel
theorem d3_12 : decode method_3_code 12 = .ok (.iload_n 2, 1) := by decide +kernel
theorem d3_13 : decode method_3_code 13 = .ok (.irem, 1) := by decide +kernel
theorem d3_14 : decode method_3_code 14 = .ok (.ireturn, 1) := by decide +kernel
theorem pn_3 : plainFor (⟨"com/example/leeway/leeway/model/ListedTuplesNextTuplePinLaw", "value", "(JI)I"⟩ : MethodName) = true := by first | exact plainFor_of_name (by first | (simp [plainName, overriddenIn]; done) | decide +kernel) | decide +kernel
set_option maxRecDepth 65536 in
set_option maxHeartbeats 40000000 in
theorem rm_3 (l : Launch) (Z : State) (a0 : Array Value) (hw : ∀ d ∈ tables_1, d.before a0 Z = true) (p0 : Int64) (sz : Int32) (h : Heap) (n0 : Nat) (Z0 : n0 ≤ h.size) (hs : 1 ≤ sz.toInt) :
    Does l Z (⟨"com/example/leeway/leeway/model/ListedTuplesNextTuplePinLaw", "value", "(JI)I"⟩ : MethodName) method_3_code 4 (some .int) ({ frames := 0, cells := 0, slots := 0, locals := 0 } : Room) #[(.long p0), (.int sz)] h n0 (fun v h' => h = h' ∧ ∃ r : Int32, v = some (.int r) ∧ 0 ≤ r.toInt ∧ r.toInt < sz.toInt) := by
  refine Does.of_body pn_3 [.val (.long p0), .second, .val (.int sz), .unset] (fun m => by first | (simp [entryFrame, mkF, argsToLocals, Value.category]; done) | rfl) ?_
  intro W hWl cx
  subst hWl
  have cx : Cx W Z "com/example/leeway/leeway/model/ListedTuplesNextTuplePinLaw" "value" method_3_code 4 (some .int) := cx
  have l32_1 : (1 : Int32).toInt = 1 := rfl
  refine Ok.lloadN cx d3_0 rfl 1 rfl ?_
  refine Ok.l2i cx d3_1 2 rfl fun t1 e1 => ?_
  refine Ok.istoreN cx d3_2 rfl One.u [.val (.long p0), .second, .val (.int sz), .val (.int t1)] rfl 3 rfl ?_
  refine Ok.iloadN cx d3_3 rfl 4 rfl ?_
  refine Ok.if_ge cx d3_4 11 7 (by decide) rfl (fun c4 => ?_) (fun c4 => ?_)
  · skip
    refine Ok.iloadN cx d3_11 rfl 12 rfl ?_
    refine Ok.iloadN cx d3_12 rfl 13 rfl ?_
    refine Ok.irem cx d3_13 (own_nz (by omega)) 14 rfl fun t13 e13 => ?_
    have s13 := (c_iremV t1 sz).1 (by omega) (by omega); rw [← e13] at s13
    exact Ok.ireturn cx d3_14 (by decide) (by decide) ⟨rfl, _, rfl, by omega⟩
  · skip
    refine Ok.iloadN cx d3_7 rfl 8 rfl ?_
    refine Ok.iconst cx d3_8 9 rfl (1 : Int32) rfl ?_
    refine Ok.isub cx d3_9 10 rfl fun t9 e9 => ?_
    have s9 := own_sub e9 (by omega) (by have := rng32 sz; omega)
    exact Ok.ireturn cx d3_10 (by decide) (by decide) ⟨rfl, _, rfl, by omega⟩
theorem d5_0 : decode method_4_code 0 = .ok (.iload_n 0, 1) := by decide +kernel
theorem d5_1 : decode method_4_code 1 = .ok (.iload_n 2, 1) := by decide +kernel
theorem d5_2 : decode method_4_code 2 = .ok (.if_icmp .ge 5, 3) := by decide +kernel
theorem d5_5 : decode method_4_code 5 = .ok (.iload_n 1, 1) := by decide +kernel
theorem d5_6 : decode method_4_code 6 = .ok (.ireturn, 1) := by decide +kernel
theorem d5_7 : decode method_4_code 7 = .ok (.iload_n 0, 1) := by decide +kernel
theorem d5_8 : decode method_4_code 8 = .ok (.iload_n 2, 1) := by decide +kernel
theorem d5_9 : decode method_4_code 9 = .ok (.if_icmp .ne 7, 3) := by decide +kernel
theorem d5_12 : decode method_4_code 12 = .ok (.iload_n 1, 1) := by decide +kernel
theorem d5_13 : decode method_4_code 13 = .ok (.iconst 1, 1) := by decide +kernel
theorem d5_14 : decode method_4_code 14 = .ok (.iadd, 1) := by decide +kernel
theorem d5_15 : decode method_4_code 15 = .ok (.ireturn, 1) := by decide +kernel
theorem d5_16 : decode method_4_code 16 = .ok (.iconst 0, 1) := by decide +kernel
theorem d5_17 : decode method_4_code 17 = .ok (.ireturn, 1) := by decide +kernel
theorem pn_5 : plainFor (⟨"com/example/leeway/leeway/model/ListedTuplesNextTuplePinLaw", "expected", "(III)I"⟩ : MethodName) = true := by first | exact plainFor_of_name (by first | (simp [plainName, overriddenIn]; done) | decide +kernel) | decide +kernel
set_option maxRecDepth 65536 in
set_option maxHeartbeats 40000000 in
theorem rm_5 (l : Launch) (Z : State) (a0 : Array Value) (hw : ∀ d ∈ tables_1, d.before a0 Z = true) (i v p : Int32) (h : Heap) (n0 : Nat) (Z0 : n0 ≤ h.size) (hv : v.toInt + 1 < 2147483648) :
    Does l Z (⟨"com/example/leeway/leeway/model/ListedTuplesNextTuplePinLaw", "expected", "(III)I"⟩ : MethodName) method_4_code 3 (some .int) ({ frames := 0, cells := 0, slots := 0, locals := 0 } : Room) #[(.int i), (.int v), (.int p)] h n0 (fun v' h' => h = h' ∧ ∃ r : Int32, v' = some (.int r) ∧ (i.toInt < p.toInt ∧ r.toInt = v.toInt ∨ i.toInt = p.toInt ∧ r.toInt = v.toInt + 1 ∨ p.toInt < i.toInt ∧ r.toInt = 0)) := by
  refine Does.of_body pn_5 [.val (.int i), .val (.int v), .val (.int p)] (fun m => by first | (simp [entryFrame, mkF, argsToLocals, Value.category]; done) | rfl) ?_
  intro W hWl cx
  subst hWl
  have cx : Cx W Z "com/example/leeway/leeway/model/ListedTuplesNextTuplePinLaw" "expected" method_4_code 3 (some .int) := cx
  have l32_1 : (1 : Int32).toInt = 1 := rfl
  have l32_0 : (0 : Int32).toInt = 0 := rfl
  refine Ok.iloadN cx d5_0 rfl 1 rfl ?_
  refine Ok.iloadN cx d5_1 rfl 2 rfl ?_
  refine Ok.icmp_ge cx d5_2 7 5 (by decide) rfl (fun c2 => ?_) (fun c2 => ?_)
  · skip
    refine Ok.iloadN cx d5_7 rfl 8 rfl ?_
    refine Ok.iloadN cx d5_8 rfl 9 rfl ?_
    refine Ok.icmp_ne cx d5_9 16 12 (by decide) rfl (fun c9 => ?_) (fun c9 => ?_)
    · skip
      refine Ok.iconst cx d5_16 17 rfl (0 : Int32) rfl ?_
      exact Ok.ireturn cx d5_17 (by decide) (by decide) ⟨rfl, _, rfl, by omega⟩
    · skip
      refine Ok.iloadN cx d5_12 rfl 13 rfl ?_
      refine Ok.iconst cx d5_13 14 rfl (1 : Int32) rfl ?_
      refine Ok.iadd cx d5_14 15 rfl fun t14 e14 => ?_
      have s14 := own_add e14 (by have := rng32 v; omega) (by omega)
      exact Ok.ireturn cx d5_15 (by decide) (by decide) ⟨rfl, _, rfl, by omega⟩
  · skip
    refine Ok.iloadN cx d5_5 rfl 6 rfl ?_
    exact Ok.ireturn cx d5_6 (by decide) (by decide) ⟨rfl, _, rfl, by omega⟩
theorem d4_0 : decode prog_29_method_21_code 0 = .ok (.aload_n 0, 1) := by decide +kernel
theorem d4_1 : decode prog_29_method_21_code 1 = .ok (.arraylength, 1) := by decide +kernel
theorem d4_2 : decode prog_29_method_21_code 2 = .ok (.iconst 1, 1) := by decide +kernel
theorem d4_3 : decode prog_29_method_21_code 3 = .ok (.isub, 1) := by decide +kernel
theorem d4_4 : decode prog_29_method_21_code 4 = .ok (.istore_n 2, 1) := by decide +kernel
theorem d4_5 : decode prog_29_method_21_code 5 = .ok (.iload_n 2, 1) := by decide +kernel
theorem d4_6 : decode prog_29_method_21_code 6 = .ok (.ifCond .lt 27, 3) := by decide +kernel
theorem d4_9 : decode prog_29_method_21_code 9 = .ok (.aload_n 0, 1) := by decide +kernel
theorem d4_10 : decode prog_29_method_21_code 10 = .ok (.iload_n 2, 1) := by decide +kernel
theorem d4_11 : decode prog_29_method_21_code 11 = .ok (.dup2, 1) := by decide +kernel
theorem d4_12 : decode prog_29_method_21_code 12 = .ok (.iaload, 1) := by decide +kernel
theorem d4_13 : decode prog_29_method_21_code 13 = .ok (.iconst 1, 1) := by decide +kernel
theorem d4_14 : decode prog_29_method_21_code 14 = .ok (.iadd, 1) := by decide +kernel
theorem d4_15 : decode prog_29_method_21_code 15 = .ok (.dup_x2, 1) := by decide +kernel
theorem d4_16 : decode prog_29_method_21_code 16 = .ok (.iastore, 1) := by decide +kernel
theorem d4_17 : decode prog_29_method_21_code 17 = .ok (.aload_n 1, 1) := by decide +kernel
theorem d4_18 : decode prog_29_method_21_code 18 = .ok (.iload_n 2, 1) := by decide +kernel
theorem d4_19 : decode prog_29_method_21_code 19 = .ok (.iaload, 1) := by decide +kernel
theorem d4_20 : decode prog_29_method_21_code 20 = .ok (.if_icmp .ne 13, 3) := by decide +kernel
theorem d4_23 : decode prog_29_method_21_code 23 = .ok (.aload_n 0, 1) := by decide +kernel
theorem d4_24 : decode prog_29_method_21_code 24 = .ok (.iload_n 2, 1) := by decide +kernel
theorem d4_25 : decode prog_29_method_21_code 25 = .ok (.iinc 2 (-1), 3) := by decide +kernel
theorem d4_28 : decode prog_29_method_21_code 28 = .ok (.iconst 0, 1) := by decide +kernel
theorem d4_29 : decode prog_29_method_21_code 29 = .ok (.iastore, 1) := by decide +kernel
theorem d4_30 : decode prog_29_method_21_code 30 = .ok (.goto (-25), 3) := by decide +kernel
theorem d4_33 : decode prog_29_method_21_code 33 = .ok (.iload_n 2, 1) := by decide +kernel
theorem d4_34 : decode prog_29_method_21_code 34 = .ok (.ifCond .lt 7, 3) := by decide +kernel
theorem d4_37 : decode prog_29_method_21_code 37 = .ok (.iconst 1, 1) := by decide +kernel
theorem d4_38 : decode prog_29_method_21_code 38 = .ok (.goto 4, 3) := by decide +kernel
theorem d4_41 : decode prog_29_method_21_code 41 = .ok (.iconst 0, 1) := by decide +kernel
theorem d4_42 : decode prog_29_method_21_code 42 = .ok (.ireturn, 1) := by decide +kernel
theorem pn_4 : plainFor (⟨"com/example/leeway/leeway/model/ListedTuples", "nextTuple", "([I[I)Z"⟩ : MethodName) = true := by first | exact plainFor_of_name (by first | (simp [plainName, overriddenIn]; done) | decide +kernel) | decide +kernel
set_option maxRecDepth 65536 in
set_option maxHeartbeats 40000000 in
theorem rm_4_0 (l : Launch) (Z : State) (a0 : Array Value) (hw : ∀ d ∈ tables_1, d.before a0 Z = true) (a b : Addr) (h : Heap) (n0 : Nat) (Z0 : n0 ≤ h.size) (A_a : AI Z h a .int []) (A_b : AI Z h b .int []) (nab : a ≠ b) (za : n0 ≤ a)  :
    Does l Z (⟨"com/example/leeway/leeway/model/ListedTuples", "nextTuple", "([I[I)Z"⟩ : MethodName) prog_29_method_21_code 3 (some .boolean) ({ frames := 0, cells := 0, slots := 0, locals := 0 } : Room) #[(.ref a), (.ref b)] h n0 (fun v' h' => n0 ≤ h'.size ∧ AI Z h' b .int [] ∧ ∃ x : Int32, v' = some (.int x) ∧ ((x.toInt = 0 ∧ (True) ∧ ∃ y : Int32, AI Z h' a .int []))) := by
  refine Does.of_body pn_4 [.val (.ref a), .val (.ref b), .unset] (fun m => by first | (simp [entryFrame, mkF, argsToLocals, Value.category]; done) | rfl) ?_
  intro W hWl cx
  subst hWl
  have cx : Cx W Z "com/example/leeway/leeway/model/ListedTuples" "nextTuple" prog_29_method_21_code 3 (some .boolean) := cx
  have lz1 : ((1 : Int32) &&& 1).toInt = 1 := rfl
  have lz0 : ((0 : Int32) &&& 1).toInt = 0 := rfl
  have l32_1 : (1 : Int32).toInt = 1 := rfl
  have l32_m1 : (-1 : Int32).toInt = -1 := rfl
  have l32_0 : (0 : Int32).toInt = 0 := rfl
  have lm0 : (0 : Int32).toInt = 0 := rfl
  refine Ok.aloadN cx d4_0 rfl 1 rfl ?_
  refine Ok.arraylength cx d4_1 A_a (0 : Int32) rfl 2 rfl ?_
  refine Ok.iconst cx d4_2 3 rfl (1 : Int32) rfl ?_
  refine Ok.isub cx d4_3 4 rfl fun t3 e3 => ?_
  refine Ok.istoreN cx d4_4 rfl One.u [.val (.ref a), .val (.ref b), .val (.int t3)] rfl 5 rfl ?_
  have ix := own_sub e3 (by omega) (by omega)
  refine Ok.iloadN cx d4_5 rfl 6 rfl ?_
  refine Ok.if_lt cx d4_6 33 9 (by decide) rfl (fun c6 => ?_) (fun c6 => by exfalso; omega)
  refine Ok.iloadN cx d4_33 rfl 34 rfl ?_
  refine Ok.if_lt cx d4_34 41 37 (by decide) rfl (fun c34 => ?_) (fun c34 => by exfalso; omega)
  refine Ok.iconst cx d4_41 42 rfl (0 : Int32) rfl ?_
  exact Ok.zreturn cx d4_42 (by decide) (by decide) ⟨Z0, A_b, _, rfl, ⟨rfl, trivial, 0, A_a⟩⟩
set_option maxRecDepth 65536 in
set_option maxHeartbeats 40000000 in
theorem rm_4_1 (l : Launch) (Z : State) (a0 : Array Value) (hw : ∀ d ∈ tables_1, d.before a0 Z = true) (a b : Addr) (v0 s0 : Int32) (h : Heap) (n0 : Nat) (Z0 : n0 ≤ h.size) (A_a : AI Z h a .int [(.int v0)]) (A_b : AI Z h b .int [(.int s0)]) (nab : a ≠ b) (za : n0 ≤ a) (b0 : v0.toInt + 1 < 2147483648) :
    Does l Z (⟨"com/example/leeway/leeway/model/ListedTuples", "nextTuple", "([I[I)Z"⟩ : MethodName) prog_29_method_21_code 3 (some .boolean) ({ frames := 0, cells := 0, slots := 0, locals := 0 } : Room) #[(.ref a), (.ref b)] h n0 (fun v' h' => n0 ≤ h'.size ∧ AI Z h' b .int [(.int s0)] ∧ ∃ x : Int32, v' = some (.int x) ∧ ((x.toInt = 1 ∧ (v0.toInt + 1 ≠ s0.toInt) ∧ ∃ y : Int32, y.toInt = v0.toInt + 1 ∧ AI Z h' a .int [(.int y)]) ∨ (x.toInt = 0 ∧ (v0.toInt + 1 = s0.toInt) ∧ ∃ y : Int32, AI Z h' a .int [(.int 0)]))) := by
  refine Does.of_body pn_4 [.val (.ref a), .val (.ref b), .unset] (fun m => by first | (simp [entryFrame, mkF, argsToLocals, Value.category]; done) | rfl) ?_
  intro W hWl cx
  subst hWl
  have cx : Cx W Z "com/example/leeway/leeway/model/ListedTuples" "nextTuple" prog_29_method_21_code 3 (some .boolean) := cx
  have lz1 : ((1 : Int32) &&& 1).toInt = 1 := rfl
  have lz0 : ((0 : Int32) &&& 1).toInt = 0 := rfl
  have l32_1 : (1 : Int32).toInt = 1 := rfl
  have l32_m1 : (-1 : Int32).toInt = -1 := rfl
  have l32_0 : (0 : Int32).toInt = 0 := rfl
  have lm1 : (1 : Int32).toInt = 1 := rfl
  refine Ok.aloadN cx d4_0 rfl 1 rfl ?_
  refine Ok.arraylength cx d4_1 A_a (1 : Int32) rfl 2 rfl ?_
  refine Ok.iconst cx d4_2 3 rfl (1 : Int32) rfl ?_
  refine Ok.isub cx d4_3 4 rfl fun t3 e3 => ?_
  refine Ok.istoreN cx d4_4 rfl One.u [.val (.ref a), .val (.ref b), .val (.int t3)] rfl 5 rfl ?_
  have ix := own_sub e3 (by omega) (by omega)
  refine Ok.iloadN cx d4_5 rfl 6 rfl ?_
  refine Ok.if_lt cx d4_6 33 9 (by decide) rfl (fun c6 => by exfalso; omega) (fun c6 => ?_)
  refine Ok.aloadN cx d4_9 rfl 10 rfl ?_
  refine Ok.iloadN cx d4_10 rfl 11 rfl ?_
  refine Ok.dup2 cx d4_11 rfl rfl 12 rfl ?_
  refine Ok.iaload cx d4_12 A_a (0) (by omega) (v := (.int v0)) rfl 13 rfl ?_
  refine Ok.iconst cx d4_13 14 rfl (1 : Int32) rfl ?_
  refine Ok.iadd cx d4_14 15 rfl fun t14 e14 => ?_
  have s14 := own_add e14 (by have := rng32 v0; omega) (by omega)
  refine Ok.dupX2 cx d4_15 rfl rfl rfl 16 rfl ?_
  refine Ok.iastore cx d4_16 A_a (0) (by omega) (by simp) (by first | assumption | omega) 17 rfl fun h16_ W16 G16 => ?_
  have Z0 := Nat.le_trans Z0 (Nat.le_of_eq W16.size.symm)
  have A_b := A_b.other W16 (by first | assumption | (apply Ne.symm; assumption))
  have A_a := G16
  have A_a : AI Z h16_ a .int [(.int t14)] := A_a
  refine Ok.aloadN cx d4_17 rfl 18 rfl ?_
  refine Ok.iloadN cx d4_18 rfl 19 rfl ?_
  refine Ok.iaload cx d4_19 A_b (0) (by omega) (v := (.int s0)) rfl 20 rfl ?_
  refine Ok.icmp_ne cx d4_20 33 23 (by decide) rfl (fun c20 => ?_) (fun c20 => ?_)
  · skip
    refine Ok.iloadN cx d4_33 rfl 34 rfl ?_
    refine Ok.if_lt cx d4_34 41 37 (by decide) rfl (fun c34 => by exfalso; omega) (fun c34 => ?_)
    refine Ok.iconst cx d4_37 38 rfl (1 : Int32) rfl ?_
    refine Ok.goto cx d4_38 42 (by decide) ?_
    exact Ok.zreturn cx d4_42 (by decide) (by decide) ⟨Z0, A_b, _, rfl, Or.inl ⟨rfl, (by omega), t14, s14, A_a⟩⟩
  · skip
    refine Ok.aloadN cx d4_23 rfl 24 rfl ?_
    refine Ok.iloadN cx d4_24 rfl 25 rfl ?_
    refine Ok.iinc cx d4_25 rfl (-1 : Int32) rfl (fun y => [.val (.ref a), .val (.ref b), .val (.int y)]) (fun _ => rfl) 28 rfl fun t25 e25 => ?_
    refine Ok.iconst cx d4_28 29 rfl (0 : Int32) rfl ?_
    refine Ok.iastore cx d4_29 A_a (0) (by omega) (by simp) (by first | assumption | omega) 30 rfl fun h29_ W29 G29 => ?_
    have Z0 := Nat.le_trans Z0 (Nat.le_of_eq W29.size.symm)
    have A_b := A_b.other W29 (by first | assumption | (apply Ne.symm; assumption))
    have A_a := G29
    have A_a : AI Z h29_ a .int [(.int 0)] := A_a
    refine Ok.goto cx d4_30 5 (by decide) ?_
    have ix := own_add e25 (by omega) (by omega)
    refine Ok.iloadN cx d4_5 rfl 6 rfl ?_
    refine Ok.if_lt cx d4_6 33 9 (by decide) rfl (fun c6 => ?_) (fun c6 => by exfalso; omega)
    refine Ok.iloadN cx d4_33 rfl 34 rfl ?_
    refine Ok.if_lt cx d4_34 41 37 (by decide) rfl (fun c34 => ?_) (fun c34 => by exfalso; omega)
    refine Ok.iconst cx d4_41 42 rfl (0 : Int32) rfl ?_
    exact Ok.zreturn cx d4_42 (by decide) (by decide) ⟨Z0, A_b, _, rfl, Or.inr (⟨rfl, (by omega), 0, A_a⟩)⟩
set_option maxRecDepth 65536 in
set_option maxHeartbeats 40000000 in
theorem rm_4_2 (l : Launch) (Z : State) (a0 : Array Value) (hw : ∀ d ∈ tables_1, d.before a0 Z = true) (a b : Addr) (v0 v1 s0 s1 : Int32) (h : Heap) (n0 : Nat) (Z0 : n0 ≤ h.size) (A_a : AI Z h a .int [(.int v0), (.int v1)]) (A_b : AI Z h b .int [(.int s0), (.int s1)]) (nab : a ≠ b) (za : n0 ≤ a) (b0 : v0.toInt + 1 < 2147483648) (b1 : v1.toInt + 1 < 2147483648) :
    Does l Z (⟨"com/example/leeway/leeway/model/ListedTuples", "nextTuple", "([I[I)Z"⟩ : MethodName) prog_29_method_21_code 3 (some .boolean) ({ frames := 0, cells := 0, slots := 0, locals := 0 } : Room) #[(.ref a), (.ref b)] h n0 (fun v' h' => n0 ≤ h'.size ∧ AI Z h' b .int [(.int s0), (.int s1)] ∧ ∃ x : Int32, v' = some (.int x) ∧ ((x.toInt = 1 ∧ (v1.toInt + 1 ≠ s1.toInt) ∧ ∃ y : Int32, y.toInt = v1.toInt + 1 ∧ AI Z h' a .int [(.int v0), (.int y)]) ∨ (x.toInt = 1 ∧ (v1.toInt + 1 = s1.toInt ∧ v0.toInt + 1 ≠ s0.toInt) ∧ ∃ y : Int32, y.toInt = v0.toInt + 1 ∧ AI Z h' a .int [(.int y), (.int 0)]) ∨ (x.toInt = 0 ∧ (v0.toInt + 1 = s0.toInt ∧ v1.toInt + 1 = s1.toInt) ∧ ∃ y : Int32, AI Z h' a .int [(.int 0), (.int 0)]))) := by
  refine Does.of_body pn_4 [.val (.ref a), .val (.ref b), .unset] (fun m => by first | (simp [entryFrame, mkF, argsToLocals, Value.category]; done) | rfl) ?_
  intro W hWl cx
  subst hWl
  have cx : Cx W Z "com/example/leeway/leeway/model/ListedTuples" "nextTuple" prog_29_method_21_code 3 (some .boolean) := cx
  have lz1 : ((1 : Int32) &&& 1).toInt = 1 := rfl
  have lz0 : ((0 : Int32) &&& 1).toInt = 0 := rfl
  have l32_1 : (1 : Int32).toInt = 1 := rfl
  have l32_m1 : (-1 : Int32).toInt = -1 := rfl
  have l32_0 : (0 : Int32).toInt = 0 := rfl
  have lm2 : (2 : Int32).toInt = 2 := rfl
  refine Ok.aloadN cx d4_0 rfl 1 rfl ?_
  refine Ok.arraylength cx d4_1 A_a (2 : Int32) rfl 2 rfl ?_
  refine Ok.iconst cx d4_2 3 rfl (1 : Int32) rfl ?_
  refine Ok.isub cx d4_3 4 rfl fun t3 e3 => ?_
  refine Ok.istoreN cx d4_4 rfl One.u [.val (.ref a), .val (.ref b), .val (.int t3)] rfl 5 rfl ?_
  have ix := own_sub e3 (by omega) (by omega)
  refine Ok.iloadN cx d4_5 rfl 6 rfl ?_
  refine Ok.if_lt cx d4_6 33 9 (by decide) rfl (fun c6 => by exfalso; omega) (fun c6 => ?_)
  refine Ok.aloadN cx d4_9 rfl 10 rfl ?_
  refine Ok.iloadN cx d4_10 rfl 11 rfl ?_
  refine Ok.dup2 cx d4_11 rfl rfl 12 rfl ?_
  refine Ok.iaload cx d4_12 A_a (1) (by omega) (v := (.int v1)) rfl 13 rfl ?_
  refine Ok.iconst cx d4_13 14 rfl (1 : Int32) rfl ?_
  refine Ok.iadd cx d4_14 15 rfl fun t14 e14 => ?_
  have s14 := own_add e14 (by have := rng32 v1; omega) (by omega)
  refine Ok.dupX2 cx d4_15 rfl rfl rfl 16 rfl ?_
  refine Ok.iastore cx d4_16 A_a (1) (by omega) (by simp) (by first | assumption | omega) 17 rfl fun h16_ W16 G16 => ?_
  have Z0 := Nat.le_trans Z0 (Nat.le_of_eq W16.size.symm)
  have A_b := A_b.other W16 (by first | assumption | (apply Ne.symm; assumption))
  have A_a := G16
  have A_a : AI Z h16_ a .int [(.int v0), (.int t14)] := A_a
  refine Ok.aloadN cx d4_17 rfl 18 rfl ?_
  refine Ok.iloadN cx d4_18 rfl 19 rfl ?_
  refine Ok.iaload cx d4_19 A_b (1) (by omega) (v := (.int s1)) rfl 20 rfl ?_
  refine Ok.icmp_ne cx d4_20 33 23 (by decide) rfl (fun c20 => ?_) (fun c20 => ?_)
  · skip
    refine Ok.iloadN cx d4_33 rfl 34 rfl ?_
    refine Ok.if_lt cx d4_34 41 37 (by decide) rfl (fun c34 => by exfalso; omega) (fun c34 => ?_)
    refine Ok.iconst cx d4_37 38 rfl (1 : Int32) rfl ?_
    refine Ok.goto cx d4_38 42 (by decide) ?_
    exact Ok.zreturn cx d4_42 (by decide) (by decide) ⟨Z0, A_b, _, rfl, Or.inl ⟨rfl, (by omega), t14, s14, A_a⟩⟩
  · skip
    refine Ok.aloadN cx d4_23 rfl 24 rfl ?_
    refine Ok.iloadN cx d4_24 rfl 25 rfl ?_
    refine Ok.iinc cx d4_25 rfl (-1 : Int32) rfl (fun y => [.val (.ref a), .val (.ref b), .val (.int y)]) (fun _ => rfl) 28 rfl fun t25 e25 => ?_
    refine Ok.iconst cx d4_28 29 rfl (0 : Int32) rfl ?_
    refine Ok.iastore cx d4_29 A_a (1) (by omega) (by simp) (by first | assumption | omega) 30 rfl fun h29_ W29 G29 => ?_
    have Z0 := Nat.le_trans Z0 (Nat.le_of_eq W29.size.symm)
    have A_b := A_b.other W29 (by first | assumption | (apply Ne.symm; assumption))
    have A_a := G29
    have A_a : AI Z h29_ a .int [(.int v0), (.int 0)] := A_a
    refine Ok.goto cx d4_30 5 (by decide) ?_
    have ix := own_add e25 (by omega) (by omega)
    refine Ok.iloadN cx d4_5 rfl 6 rfl ?_
    refine Ok.if_lt cx d4_6 33 9 (by decide) rfl (fun c6 => by exfalso; omega) (fun c6 => ?_)
    refine Ok.aloadN cx d4_9 rfl 10 rfl ?_
    refine Ok.iloadN cx d4_10 rfl 11 rfl ?_
    refine Ok.dup2 cx d4_11 rfl rfl 12 rfl ?_
    refine Ok.iaload cx d4_12 A_a (0) (by omega) (v := (.int v0)) rfl 13 rfl ?_
    refine Ok.iconst cx d4_13 14 rfl (1 : Int32) rfl ?_
    refine Ok.iadd cx d4_14 15 rfl fun t14 e14 => ?_
    have s14 := own_add e14 (by have := rng32 v0; omega) (by omega)
    refine Ok.dupX2 cx d4_15 rfl rfl rfl 16 rfl ?_
    refine Ok.iastore cx d4_16 A_a (0) (by omega) (by simp) (by first | assumption | omega) 17 rfl fun h16_ W16 G16 => ?_
    have Z0 := Nat.le_trans Z0 (Nat.le_of_eq W16.size.symm)
    have A_b := A_b.other W16 (by first | assumption | (apply Ne.symm; assumption))
    have A_a := G16
    have A_a : AI Z h16_ a .int [(.int t14), (.int 0)] := A_a
    refine Ok.aloadN cx d4_17 rfl 18 rfl ?_
    refine Ok.iloadN cx d4_18 rfl 19 rfl ?_
    refine Ok.iaload cx d4_19 A_b (0) (by omega) (v := (.int s0)) rfl 20 rfl ?_
    refine Ok.icmp_ne cx d4_20 33 23 (by decide) rfl (fun c20 => ?_) (fun c20 => ?_)
    · skip
      refine Ok.iloadN cx d4_33 rfl 34 rfl ?_
      refine Ok.if_lt cx d4_34 41 37 (by decide) rfl (fun c34 => by exfalso; omega) (fun c34 => ?_)
      refine Ok.iconst cx d4_37 38 rfl (1 : Int32) rfl ?_
      refine Ok.goto cx d4_38 42 (by decide) ?_
      exact Ok.zreturn cx d4_42 (by decide) (by decide) ⟨Z0, A_b, _, rfl, Or.inr (Or.inl ⟨rfl, (by refine ⟨?_, ?_⟩; all_goals omega), t14, s14, A_a⟩)⟩
    · skip
      refine Ok.aloadN cx d4_23 rfl 24 rfl ?_
      refine Ok.iloadN cx d4_24 rfl 25 rfl ?_
      refine Ok.iinc cx d4_25 rfl (-1 : Int32) rfl (fun y => [.val (.ref a), .val (.ref b), .val (.int y)]) (fun _ => rfl) 28 rfl fun t25 e25 => ?_
      refine Ok.iconst cx d4_28 29 rfl (0 : Int32) rfl ?_
      refine Ok.iastore cx d4_29 A_a (0) (by omega) (by simp) (by first | assumption | omega) 30 rfl fun h29_ W29 G29 => ?_
      have Z0 := Nat.le_trans Z0 (Nat.le_of_eq W29.size.symm)
      have A_b := A_b.other W29 (by first | assumption | (apply Ne.symm; assumption))
      have A_a := G29
      have A_a : AI Z h29_ a .int [(.int 0), (.int 0)] := A_a
      refine Ok.goto cx d4_30 5 (by decide) ?_
      have ix := own_add e25 (by omega) (by omega)
      refine Ok.iloadN cx d4_5 rfl 6 rfl ?_
      refine Ok.if_lt cx d4_6 33 9 (by decide) rfl (fun c6 => ?_) (fun c6 => by exfalso; omega)
      refine Ok.iloadN cx d4_33 rfl 34 rfl ?_
      refine Ok.if_lt cx d4_34 41 37 (by decide) rfl (fun c34 => ?_) (fun c34 => by exfalso; omega)
      refine Ok.iconst cx d4_41 42 rfl (0 : Int32) rfl ?_
      exact Ok.zreturn cx d4_42 (by decide) (by decide) ⟨Z0, A_b, _, rfl, Or.inr (Or.inr (⟨rfl, (by refine ⟨?_, ?_⟩; all_goals omega), 0, A_a⟩))⟩
set_option maxRecDepth 65536 in
set_option maxHeartbeats 40000000 in
theorem rm_4_3 (l : Launch) (Z : State) (a0 : Array Value) (hw : ∀ d ∈ tables_1, d.before a0 Z = true) (a b : Addr) (v0 v1 v2 s0 s1 s2 : Int32) (h : Heap) (n0 : Nat) (Z0 : n0 ≤ h.size) (A_a : AI Z h a .int [(.int v0), (.int v1), (.int v2)]) (A_b : AI Z h b .int [(.int s0), (.int s1), (.int s2)]) (nab : a ≠ b) (za : n0 ≤ a) (b0 : v0.toInt + 1 < 2147483648) (b1 : v1.toInt + 1 < 2147483648) (b2 : v2.toInt + 1 < 2147483648) :
    Does l Z (⟨"com/example/leeway/leeway/model/ListedTuples", "nextTuple", "([I[I)Z"⟩ : MethodName) prog_29_method_21_code 3 (some .boolean) ({ frames := 0, cells := 0, slots := 0, locals := 0 } : Room) #[(.ref a), (.ref b)] h n0 (fun v' h' => n0 ≤ h'.size ∧ AI Z h' b .int [(.int s0), (.int s1), (.int s2)] ∧ ∃ x : Int32, v' = some (.int x) ∧ ((x.toInt = 1 ∧ (v2.toInt + 1 ≠ s2.toInt) ∧ ∃ y : Int32, y.toInt = v2.toInt + 1 ∧ AI Z h' a .int [(.int v0), (.int v1), (.int y)]) ∨ (x.toInt = 1 ∧ (v2.toInt + 1 = s2.toInt ∧ v1.toInt + 1 ≠ s1.toInt) ∧ ∃ y : Int32, y.toInt = v1.toInt + 1 ∧ AI Z h' a .int [(.int v0), (.int y), (.int 0)]) ∨ (x.toInt = 1 ∧ (v1.toInt + 1 = s1.toInt ∧ v2.toInt + 1 = s2.toInt ∧ v0.toInt + 1 ≠ s0.toInt) ∧ ∃ y : Int32, y.toInt = v0.toInt + 1 ∧ AI Z h' a .int [(.int y), (.int 0), (.int 0)]) ∨ (x.toInt = 0 ∧ (v0.toInt + 1 = s0.toInt ∧ v1.toInt + 1 = s1.toInt ∧ v2.toInt + 1 = s2.toInt) ∧ ∃ y : Int32, AI Z h' a .int [(.int 0), (.int 0), (.int 0)]))) := by
  refine Does.of_body pn_4 [.val (.ref a), .val (.ref b), .unset] (fun m => by first | (simp [entryFrame, mkF, argsToLocals, Value.category]; done) | rfl) ?_
  intro W hWl cx
  subst hWl
  have cx : Cx W Z "com/example/leeway/leeway/model/ListedTuples" "nextTuple" prog_29_method_21_code 3 (some .boolean) := cx
  have lz1 : ((1 : Int32) &&& 1).toInt = 1 := rfl
  have lz0 : ((0 : Int32) &&& 1).toInt = 0 := rfl
  have l32_1 : (1 : Int32).toInt = 1 := rfl
  have l32_m1 : (-1 : Int32).toInt = -1 := rfl
  have l32_0 : (0 : Int32).toInt = 0 := rfl
  have lm3 : (3 : Int32).toInt = 3 := rfl
  refine Ok.aloadN cx d4_0 rfl 1 rfl ?_
  refine Ok.arraylength cx d4_1 A_a (3 : Int32) rfl 2 rfl ?_
  refine Ok.iconst cx d4_2 3 rfl (1 : Int32) rfl ?_
  refine Ok.isub cx d4_3 4 rfl fun t3 e3 => ?_
  refine Ok.istoreN cx d4_4 rfl One.u [.val (.ref a), .val (.ref b), .val (.int t3)] rfl 5 rfl ?_
  have ix := own_sub e3 (by omega) (by omega)
  refine Ok.iloadN cx d4_5 rfl 6 rfl ?_
  refine Ok.if_lt cx d4_6 33 9 (by decide) rfl (fun c6 => by exfalso; omega) (fun c6 => ?_)
  refine Ok.aloadN cx d4_9 rfl 10 rfl ?_
  refine Ok.iloadN cx d4_10 rfl 11 rfl ?_
  refine Ok.dup2 cx d4_11 rfl rfl 12 rfl ?_
  refine Ok.iaload cx d4_12 A_a (2) (by omega) (v := (.int v2)) rfl 13 rfl ?_
  refine Ok.iconst cx d4_13 14 rfl (1 : Int32) rfl ?_
  refine Ok.iadd cx d4_14 15 rfl fun t14 e14 => ?_
  have s14 := own_add e14 (by have := rng32 v2; omega) (by omega)
  refine Ok.dupX2 cx d4_15 rfl rfl rfl 16 rfl ?_
  refine Ok.iastore cx d4_16 A_a (2) (by omega) (by simp) (by first | assumption | omega) 17 rfl fun h16_ W16 G16 => ?_
  have Z0 := Nat.le_trans Z0 (Nat.le_of_eq W16.size.symm)
  have A_b := A_b.other W16 (by first | assumption | (apply Ne.symm; assumption))
  have A_a := G16
  have A_a : AI Z h16_ a .int [(.int v0), (.int v1), (.int t14)] := A_a
  refine Ok.aloadN cx d4_17 rfl 18 rfl ?_
  refine Ok.iloadN cx d4_18 rfl 19 rfl ?_
  refine Ok.iaload cx d4_19 A_b (2) (by omega) (v := (.int s2)) rfl 20 rfl ?_
  refine Ok.icmp_ne cx d4_20 33 23 (by decide) rfl (fun c20 => ?_) (fun c20 => ?_)
  · skip
    refine Ok.iloadN cx d4_33 rfl 34 rfl ?_
    refine Ok.if_lt cx d4_34 41 37 (by decide) rfl (fun c34 => by exfalso; omega) (fun c34 => ?_)
    refine Ok.iconst cx d4_37 38 rfl (1 : Int32) rfl ?_
    refine Ok.goto cx d4_38 42 (by decide) ?_
    exact Ok.zreturn cx d4_42 (by decide) (by decide) ⟨Z0, A_b, _, rfl, Or.inl ⟨rfl, (by omega), t14, s14, A_a⟩⟩
  · skip
    refine Ok.aloadN cx d4_23 rfl 24 rfl ?_
    refine Ok.iloadN cx d4_24 rfl 25 rfl ?_
    refine Ok.iinc cx d4_25 rfl (-1 : Int32) rfl (fun y => [.val (.ref a), .val (.ref b), .val (.int y)]) (fun _ => rfl) 28 rfl fun t25 e25 => ?_
    refine Ok.iconst cx d4_28 29 rfl (0 : Int32) rfl ?_
    refine Ok.iastore cx d4_29 A_a (2) (by omega) (by simp) (by first | assumption | omega) 30 rfl fun h29_ W29 G29 => ?_
    have Z0 := Nat.le_trans Z0 (Nat.le_of_eq W29.size.symm)
    have A_b := A_b.other W29 (by first | assumption | (apply Ne.symm; assumption))
    have A_a := G29
    have A_a : AI Z h29_ a .int [(.int v0), (.int v1), (.int 0)] := A_a
    refine Ok.goto cx d4_30 5 (by decide) ?_
    have ix := own_add e25 (by omega) (by omega)
    refine Ok.iloadN cx d4_5 rfl 6 rfl ?_
    refine Ok.if_lt cx d4_6 33 9 (by decide) rfl (fun c6 => by exfalso; omega) (fun c6 => ?_)
    refine Ok.aloadN cx d4_9 rfl 10 rfl ?_
    refine Ok.iloadN cx d4_10 rfl 11 rfl ?_
    refine Ok.dup2 cx d4_11 rfl rfl 12 rfl ?_
    refine Ok.iaload cx d4_12 A_a (1) (by omega) (v := (.int v1)) rfl 13 rfl ?_
    refine Ok.iconst cx d4_13 14 rfl (1 : Int32) rfl ?_
    refine Ok.iadd cx d4_14 15 rfl fun t14 e14 => ?_
    have s14 := own_add e14 (by have := rng32 v1; omega) (by omega)
    refine Ok.dupX2 cx d4_15 rfl rfl rfl 16 rfl ?_
    refine Ok.iastore cx d4_16 A_a (1) (by omega) (by simp) (by first | assumption | omega) 17 rfl fun h16_ W16 G16 => ?_
    have Z0 := Nat.le_trans Z0 (Nat.le_of_eq W16.size.symm)
    have A_b := A_b.other W16 (by first | assumption | (apply Ne.symm; assumption))
    have A_a := G16
    have A_a : AI Z h16_ a .int [(.int v0), (.int t14), (.int 0)] := A_a
    refine Ok.aloadN cx d4_17 rfl 18 rfl ?_
    refine Ok.iloadN cx d4_18 rfl 19 rfl ?_
    refine Ok.iaload cx d4_19 A_b (1) (by omega) (v := (.int s1)) rfl 20 rfl ?_
    refine Ok.icmp_ne cx d4_20 33 23 (by decide) rfl (fun c20 => ?_) (fun c20 => ?_)
    · skip
      refine Ok.iloadN cx d4_33 rfl 34 rfl ?_
      refine Ok.if_lt cx d4_34 41 37 (by decide) rfl (fun c34 => by exfalso; omega) (fun c34 => ?_)
      refine Ok.iconst cx d4_37 38 rfl (1 : Int32) rfl ?_
      refine Ok.goto cx d4_38 42 (by decide) ?_
      exact Ok.zreturn cx d4_42 (by decide) (by decide) ⟨Z0, A_b, _, rfl, Or.inr (Or.inl ⟨rfl, (by refine ⟨?_, ?_⟩; all_goals omega), t14, s14, A_a⟩)⟩
    · skip
      refine Ok.aloadN cx d4_23 rfl 24 rfl ?_
      refine Ok.iloadN cx d4_24 rfl 25 rfl ?_
      refine Ok.iinc cx d4_25 rfl (-1 : Int32) rfl (fun y => [.val (.ref a), .val (.ref b), .val (.int y)]) (fun _ => rfl) 28 rfl fun t25 e25 => ?_
      refine Ok.iconst cx d4_28 29 rfl (0 : Int32) rfl ?_
      refine Ok.iastore cx d4_29 A_a (1) (by omega) (by simp) (by first | assumption | omega) 30 rfl fun h29_ W29 G29 => ?_
      have Z0 := Nat.le_trans Z0 (Nat.le_of_eq W29.size.symm)
      have A_b := A_b.other W29 (by first | assumption | (apply Ne.symm; assumption))
      have A_a := G29
      have A_a : AI Z h29_ a .int [(.int v0), (.int 0), (.int 0)] := A_a
      refine Ok.goto cx d4_30 5 (by decide) ?_
      have ix := own_add e25 (by omega) (by omega)
      refine Ok.iloadN cx d4_5 rfl 6 rfl ?_
      refine Ok.if_lt cx d4_6 33 9 (by decide) rfl (fun c6 => by exfalso; omega) (fun c6 => ?_)
      refine Ok.aloadN cx d4_9 rfl 10 rfl ?_
      refine Ok.iloadN cx d4_10 rfl 11 rfl ?_
      refine Ok.dup2 cx d4_11 rfl rfl 12 rfl ?_
      refine Ok.iaload cx d4_12 A_a (0) (by omega) (v := (.int v0)) rfl 13 rfl ?_
      refine Ok.iconst cx d4_13 14 rfl (1 : Int32) rfl ?_
      refine Ok.iadd cx d4_14 15 rfl fun t14 e14 => ?_
      have s14 := own_add e14 (by have := rng32 v0; omega) (by omega)
      refine Ok.dupX2 cx d4_15 rfl rfl rfl 16 rfl ?_
      refine Ok.iastore cx d4_16 A_a (0) (by omega) (by simp) (by first | assumption | omega) 17 rfl fun h16_ W16 G16 => ?_
      have Z0 := Nat.le_trans Z0 (Nat.le_of_eq W16.size.symm)
      have A_b := A_b.other W16 (by first | assumption | (apply Ne.symm; assumption))
      have A_a := G16
      have A_a : AI Z h16_ a .int [(.int t14), (.int 0), (.int 0)] := A_a
      refine Ok.aloadN cx d4_17 rfl 18 rfl ?_
      refine Ok.iloadN cx d4_18 rfl 19 rfl ?_
      refine Ok.iaload cx d4_19 A_b (0) (by omega) (v := (.int s0)) rfl 20 rfl ?_
      refine Ok.icmp_ne cx d4_20 33 23 (by decide) rfl (fun c20 => ?_) (fun c20 => ?_)
      · skip
        refine Ok.iloadN cx d4_33 rfl 34 rfl ?_
        refine Ok.if_lt cx d4_34 41 37 (by decide) rfl (fun c34 => by exfalso; omega) (fun c34 => ?_)
        refine Ok.iconst cx d4_37 38 rfl (1 : Int32) rfl ?_
        refine Ok.goto cx d4_38 42 (by decide) ?_
        exact Ok.zreturn cx d4_42 (by decide) (by decide) ⟨Z0, A_b, _, rfl, Or.inr (Or.inr (Or.inl ⟨rfl, (by refine ⟨?_, ?_, ?_⟩; all_goals omega), t14, s14, A_a⟩))⟩
      · skip
        refine Ok.aloadN cx d4_23 rfl 24 rfl ?_
        refine Ok.iloadN cx d4_24 rfl 25 rfl ?_
        refine Ok.iinc cx d4_25 rfl (-1 : Int32) rfl (fun y => [.val (.ref a), .val (.ref b), .val (.int y)]) (fun _ => rfl) 28 rfl fun t25 e25 => ?_
        refine Ok.iconst cx d4_28 29 rfl (0 : Int32) rfl ?_
        refine Ok.iastore cx d4_29 A_a (0) (by omega) (by simp) (by first | assumption | omega) 30 rfl fun h29_ W29 G29 => ?_
        have Z0 := Nat.le_trans Z0 (Nat.le_of_eq W29.size.symm)
        have A_b := A_b.other W29 (by first | assumption | (apply Ne.symm; assumption))
        have A_a := G29
        have A_a : AI Z h29_ a .int [(.int 0), (.int 0), (.int 0)] := A_a
        refine Ok.goto cx d4_30 5 (by decide) ?_
        have ix := own_add e25 (by omega) (by omega)
        refine Ok.iloadN cx d4_5 rfl 6 rfl ?_
        refine Ok.if_lt cx d4_6 33 9 (by decide) rfl (fun c6 => ?_) (fun c6 => by exfalso; omega)
        refine Ok.iloadN cx d4_33 rfl 34 rfl ?_
        refine Ok.if_lt cx d4_34 41 37 (by decide) rfl (fun c34 => ?_) (fun c34 => by exfalso; omega)
        refine Ok.iconst cx d4_41 42 rfl (0 : Int32) rfl ?_
        exact Ok.zreturn cx d4_42 (by decide) (by decide) ⟨Z0, A_b, _, rfl, Or.inr (Or.inr (Or.inr (⟨rfl, (by refine ⟨?_, ?_, ?_⟩; all_goals omega), 0, A_a⟩)))⟩
theorem pn_0 : plainFor x = true := by first | exact plainFor_of_name (by first | (simp [plainName, overriddenIn]; done) | decide +kernel) | decide +kernel
theorem pd_1 : parseMethodDescriptor "(J)I" = some ⟨[.long], some .int⟩ := by decide +kernel
theorem pd_2 : parseMethodDescriptor "(JI)I" = some ⟨[.long, .int], some .int⟩ := by decide +kernel
theorem pd_3 : parseMethodDescriptor "([I[I)Z" = some ⟨[(.array .int), (.array .int)], some .boolean⟩ := by decide +kernel
theorem pd_4 : parseMethodDescriptor "(III)I" = some ⟨[.int, .int, .int], some .int⟩ := by decide +kernel
set_option maxRecDepth 65536 in
set_option maxHeartbeats 40000000 in
theorem rm_0 (l : Launch) (Z : State) (a0 : Array Value) (hw : ∀ d ∈ tables_1, d.before a0 Z = true) (p0 : Int32) (p1 p2 p3 : Int64) (h : Heap) (n0 : Nat) (Z0 : n0 ≤ h.size)  :
    DoesW l Z x code maxLocals ret room_1 tables_1 #[(.int p0), (.long p1), (.long p2), (.long p3)] h n0 (fun v _ => v = some (.int 1)) := by
  refine DoesW.of_body pn_0 [.val (.int p0), .val (.long p1), .second, .val (.long p2), .second, .val (.long p3), .second, .unset, .unset, .unset, .unset, .unset, .unset, .unset, .unset, .unset, .unset, .unset, .unset] (fun m => by first | (simp [entryFrame, mkF, argsToLocals, Value.category, maxLocals]; done) | rfl) ?_
  intro W hWl cx
  subst hWl
  have cx : Cx W Z "com/example/leeway/leeway/model/ListedTuplesNextTuplePinLaw" "law" code 19 (some .boolean) := cx
  have lz1 : ((1 : Int32) &&& 1).toInt = 1 := rfl
  have lz0 : ((0 : Int32) &&& 1).toInt = 0 := rfl
  have l32_3 : (3 : Int32).toInt = 3 := rfl
  have l32_1 : (1 : Int32).toInt = 1 := rfl
  have l32_0 : (0 : Int32).toInt = 0 := rfl
  have l32_2 : (2 : Int32).toInt = 2 := rfl
  have l32_m1 : (-1 : Int32).toInt = -1 := rfl
  refine Ok.iloadN cx at_0 rfl 1 rfl ?_
  refine Ok.iconst cx at_1 2 rfl (3 : Int32) rfl ?_
  refine Ok.iand cx at_2 3 rfl fun t2 e2 => ?_
  have m2 := c_mask p0 3 2 (by decide) (by decide); rw [← e2] at m2
  rcases (by omega : t2.toInt = 0 ∨ t2.toInt = 1 ∨ t2.toInt = 2 ∨ t2.toInt = 3) with hm | hm | hm | hm
  · skip
    clear m2
    refine Ok.istore cx at_3 rfl One.u [.val (.int p0), .val (.long p1), .second, .val (.long p2), .second, .val (.long p3), .second, .val (.int t2), .unset, .unset, .unset, .unset, .unset, .unset, .unset, .unset, .unset, .unset, .unset] rfl 5 rfl ?_
    refine Ok.lloadN cx at_5 rfl 6 rfl ?_
    refine Ok.callStatic cx [(.long p1)] [] rfl (own_w hw 0 rfl) (own_w hw 1 rfl) (own_w hw 2 rfl) (own_w hw 3 rfl) at_6 (by decide) pd_1 rfl rfl  (rm_1 W.l Z a0 hw p1 h n0 Z0) (by decide) 0 rfl (by decide) (by decide) (by decide) 9 rfl fun v6 h6_ q6 => ?_
    obtain ⟨rfl, r6, rfl, x6⟩ := q6
    show Ok _ _ _ _ _ _ _ _ _ [(.int r6)]
    refine Ok.istore cx at_9 rfl One.u [.val (.int p0), .val (.long p1), .second, .val (.long p2), .second, .val (.long p3), .second, .val (.int t2), .val (.int r6), .unset, .unset, .unset, .unset, .unset, .unset, .unset, .unset, .unset, .unset] rfl 11 rfl ?_
    refine Ok.lloadN cx at_11 rfl 12 rfl ?_
    refine Ok.callStatic cx [(.long p2)] [] rfl (own_w hw 0 rfl) (own_w hw 1 rfl) (own_w hw 2 rfl) (own_w hw 3 rfl) at_12 (by decide) pd_1 rfl rfl  (rm_1 W.l Z a0 hw p2 h n0 Z0) (by decide) 0 rfl (by decide) (by decide) (by decide) 15 rfl fun v12 h12_ q12 => ?_
    obtain ⟨rfl, r12, rfl, x12⟩ := q12
    show Ok _ _ _ _ _ _ _ _ _ [(.int r12)]
    refine Ok.istore cx at_15 rfl One.u [.val (.int p0), .val (.long p1), .second, .val (.long p2), .second, .val (.long p3), .second, .val (.int t2), .val (.int r6), .val (.int r12), .unset, .unset, .unset, .unset, .unset, .unset, .unset, .unset, .unset] rfl 17 rfl ?_
    refine Ok.lload cx at_17 rfl 19 rfl ?_
    refine Ok.callStatic cx [(.long p3)] [] rfl (own_w hw 0 rfl) (own_w hw 1 rfl) (own_w hw 2 rfl) (own_w hw 3 rfl) at_19 (by decide) pd_1 rfl rfl  (rm_1 W.l Z a0 hw p3 h n0 Z0) (by decide) 0 rfl (by decide) (by decide) (by decide) 22 rfl fun v19 h19_ q19 => ?_
    obtain ⟨rfl, r19, rfl, x19⟩ := q19
    show Ok _ _ _ _ _ _ _ _ _ [(.int r19)]
    refine Ok.istore cx at_22 rfl One.u [.val (.int p0), .val (.long p1), .second, .val (.long p2), .second, .val (.long p3), .second, .val (.int t2), .val (.int r6), .val (.int r12), .val (.int r19), .unset, .unset, .unset, .unset, .unset, .unset, .unset, .unset] rfl 24 rfl ?_
    refine Ok.lloadN cx at_24 rfl 25 rfl ?_
    refine Ok.iload cx at_25 rfl 27 rfl ?_
    refine Ok.callStatic cx [(.long p1), (.int r6)] [] rfl (own_w hw 8 rfl) (own_w hw 9 rfl) (own_w hw 2 rfl) (own_w hw 10 rfl) at_27 (by decide) pd_2 rfl rfl  (rm_3 W.l Z a0 hw p1 r6 h n0 Z0 (by omega)) (by decide) 0 rfl (by decide) (by decide) (by decide) 30 rfl fun v27 h27_ q27 => ?_
    obtain ⟨rfl, r27, rfl, x27⟩ := q27
    show Ok _ _ _ _ _ _ _ _ _ [(.int r27)]
    refine Ok.istore cx at_30 rfl One.u [.val (.int p0), .val (.long p1), .second, .val (.long p2), .second, .val (.long p3), .second, .val (.int t2), .val (.int r6), .val (.int r12), .val (.int r19), .val (.int r27), .unset, .unset, .unset, .unset, .unset, .unset, .unset] rfl 32 rfl ?_
    refine Ok.lloadN cx at_32 rfl 33 rfl ?_
    refine Ok.iload cx at_33 rfl 35 rfl ?_
    refine Ok.callStatic cx [(.long p2), (.int r12)] [] rfl (own_w hw 8 rfl) (own_w hw 9 rfl) (own_w hw 2 rfl) (own_w hw 10 rfl) at_35 (by decide) pd_2 rfl rfl  (rm_3 W.l Z a0 hw p2 r12 h n0 Z0 (by omega)) (by decide) 0 rfl (by decide) (by decide) (by decide) 38 rfl fun v35 h35_ q35 => ?_
    obtain ⟨rfl, r35, rfl, x35⟩ := q35
    show Ok _ _ _ _ _ _ _ _ _ [(.int r35)]
    refine Ok.istore cx at_38 rfl One.u [.val (.int p0), .val (.long p1), .second, .val (.long p2), .second, .val (.long p3), .second, .val (.int t2), .val (.int r6), .val (.int r12), .val (.int r19), .val (.int r27), .val (.int r35), .unset, .unset, .unset, .unset, .unset, .unset] rfl 40 rfl ?_
    refine Ok.lload cx at_40 rfl 42 rfl ?_
    refine Ok.iload cx at_42 rfl 44 rfl ?_
    refine Ok.callStatic cx [(.long p3), (.int r19)] [] rfl (own_w hw 8 rfl) (own_w hw 9 rfl) (own_w hw 2 rfl) (own_w hw 10 rfl) at_44 (by decide) pd_2 rfl rfl  (rm_3 W.l Z a0 hw p3 r19 h n0 Z0 (by omega)) (by decide) 0 rfl (by decide) (by decide) (by decide) 47 rfl fun v44 h44_ q44 => ?_
    obtain ⟨rfl, r44, rfl, x44⟩ := q44
    show Ok _ _ _ _ _ _ _ _ _ [(.int r44)]
    refine Ok.istore cx at_47 rfl One.u [.val (.int p0), .val (.long p1), .second, .val (.long p2), .second, .val (.long p3), .second, .val (.int t2), .val (.int r6), .val (.int r12), .val (.int r19), .val (.int r27), .val (.int r35), .val (.int r44), .unset, .unset, .unset, .unset, .unset] rfl 49 rfl ?_
    refine Ok.iload cx at_49 rfl 51 rfl ?_
    refine Ok.newarray cx (own_w hw 11 rfl) at_51 rfl (0) hm (by omega) 3 (by omega) (by omega) (by decide) (by decide) 53 rfl fun h51_ a g51 E51 V51 => ?_
    have za : n0 ≤ a := by rw [g51]; exact Z0
    have Z0 := Nat.le_trans Z0 E51.1
    refine Ok.astore cx at_53 rfl One.u [.val (.int p0), .val (.long p1), .second, .val (.long p2), .second, .val (.long p3), .second, .val (.int t2), .val (.int r6), .val (.int r12), .val (.int r19), .val (.int r27), .val (.int r35), .val (.int r44), .val (.ref a), .unset, .unset, .unset, .unset] rfl 55 rfl ?_
    refine Ok.iload cx at_55 rfl 57 rfl ?_
    refine Ok.newarray cx (own_w hw 11 rfl) at_57 rfl (0) hm (by omega) 3 (by omega) (by omega) (by decide) (by decide) 59 rfl fun h57_ b g57 E57 V57 => ?_
    have zb : n0 ≤ b := by rw [g57]; exact Z0
    have ne_a_b : a ≠ b := by rw [g57]; exact Nat.ne_of_lt V51.lt
    have Z0 := Nat.le_trans Z0 E57.1
    have V51 := V51.ext E57
    have V51 : AI Z h57_ a .int [] := V51
    have V57 : AI Z h57_ b .int [] := V57
    have nab : a ≠ b := ne_a_b
    refine Ok.astore cx at_59 rfl One.u [.val (.int p0), .val (.long p1), .second, .val (.long p2), .second, .val (.long p3), .second, .val (.int t2), .val (.int r6), .val (.int r12), .val (.int r19), .val (.int r27), .val (.int r35), .val (.int r44), .val (.ref a), .val (.ref b), .unset, .unset, .unset] rfl 61 rfl ?_
    refine Ok.iload cx at_61 rfl 63 rfl ?_
    refine Ok.iconst cx at_63 64 rfl (1 : Int32) rfl ?_
    refine Ok.icmp_lt cx at_64 79 67 (by decide) rfl (fun c64 => ?_) (fun c64 => by exfalso; omega)
    refine Ok.iload cx at_79 rfl 81 rfl ?_
    refine Ok.iconst cx at_81 82 rfl (2 : Int32) rfl ?_
    refine Ok.icmp_lt cx at_82 97 85 (by decide) rfl (fun c82 => ?_) (fun c82 => by exfalso; omega)
    refine Ok.iload cx at_97 rfl 99 rfl ?_
    refine Ok.iconst cx at_99 100 rfl (3 : Int32) rfl ?_
    refine Ok.icmp_lt cx at_100 115 103 (by decide) rfl (fun c100 => ?_) (fun c100 => by exfalso; omega)
    refine Ok.iconst cx at_115 116 rfl (-1 : Int32) rfl ?_
    refine Ok.istore cx at_116 rfl One.u [.val (.int p0), .val (.long p1), .second, .val (.long p2), .second, .val (.long p3), .second, .val (.int t2), .val (.int r6), .val (.int r12), .val (.int r19), .val (.int r27), .val (.int r35), .val (.int r44), .val (.ref a), .val (.ref b), .val (.int (-1 : Int32)), .unset, .unset] rfl 118 rfl ?_
    refine Ok.iload cx at_118 rfl 120 rfl ?_
    refine Ok.iconst cx at_120 121 rfl (3 : Int32) rfl ?_
    refine Ok.icmp_lt cx at_121 139 124 (by decide) rfl (fun c121 => ?_) (fun c121 => by exfalso; omega)
    refine Ok.iload cx at_139 rfl 141 rfl ?_
    refine Ok.iconst cx at_141 142 rfl (2 : Int32) rfl ?_
    refine Ok.icmp_lt cx at_142 160 145 (by decide) rfl (fun c142 => ?_) (fun c142 => by exfalso; omega)
    refine Ok.iload cx at_160 rfl 162 rfl ?_
    refine Ok.iconst cx at_162 163 rfl (1 : Int32) rfl ?_
    refine Ok.icmp_lt cx at_163 178 166 (by decide) rfl (fun c163 => ?_) (fun c163 => by exfalso; omega)
    refine Ok.aload cx at_178 rfl 180 rfl ?_
    refine Ok.aload cx at_180 rfl 182 rfl ?_
    refine Ok.callStatic cx [(.ref a), (.ref b)] [] rfl (own_w hw 12 rfl) (own_w hw 13 rfl) (own_w hw 14 rfl) (own_w hw 15 rfl) at_182 (by decide) pd_3 rfl rfl  (rm_4_0 W.l Z a0 hw a b h57_ n0 Z0 V51 V57 nab za) (by decide) 0 rfl (by decide) (by decide) (by decide) 185 rfl fun v182 h182_ q182 => ?_
    obtain ⟨Z0, V57, r182, rfl, x182⟩ := q182
    show Ok _ _ _ _ _ _ _ _ _ [(.int r182)]
    obtain ⟨x182, xc, y, V51⟩ := x182
    refine Ok.istore cx at_185 rfl One.u [.val (.int p0), .val (.long p1), .second, .val (.long p2), .second, .val (.long p3), .second, .val (.int t2), .val (.int r6), .val (.int r12), .val (.int r19), .val (.int r27), .val (.int r35), .val (.int r44), .val (.ref a), .val (.ref b), .val (.int (-1 : Int32)), .val (.int r182), .unset] rfl 187 rfl ?_
    refine Ok.iload cx at_187 rfl 189 rfl ?_
    refine Ok.iload cx at_189 rfl 191 rfl ?_
    refine Ok.if_lt cx at_191 198 194 (by decide) rfl (fun c191 => ?_) (fun c191 => by exfalso; omega)
    refine Ok.iconst cx at_198 199 rfl (0 : Int32) rfl ?_
    refine Ok.icmp_ne cx at_199 206 202 (by decide) rfl (fun c199 => by exfalso; omega) (fun c199 => ?_)
    refine Ok.iconst cx at_202 203 rfl (1 : Int32) rfl ?_
    refine Ok.goto cx at_203 207 (by decide) ?_
    refine Ok.istore cx at_207 rfl One.u [.val (.int p0), .val (.long p1), .second, .val (.long p2), .second, .val (.long p3), .second, .val (.int t2), .val (.int r6), .val (.int r12), .val (.int r19), .val (.int r27), .val (.int r35), .val (.int r44), .val (.ref a), .val (.ref b), .val (.int (-1 : Int32)), .val (.int r182), .val (.int (1 : Int32))] rfl 209 rfl ?_
    refine Ok.iload cx at_209 rfl 211 rfl ?_
    refine Ok.iconst cx at_211 212 rfl (1 : Int32) rfl ?_
    refine Ok.icmp_lt cx at_212 251 215 (by decide) rfl (fun c212 => ?_) (fun c212 => by exfalso; omega)
    refine Ok.iload cx at_251 rfl 253 rfl ?_
    refine Ok.iconst cx at_253 254 rfl (2 : Int32) rfl ?_
    refine Ok.icmp_lt cx at_254 293 257 (by decide) rfl (fun c254 => ?_) (fun c254 => by exfalso; omega)
    refine Ok.iload cx at_293 rfl 295 rfl ?_
    refine Ok.iconst cx at_295 296 rfl (3 : Int32) rfl ?_
    refine Ok.icmp_lt cx at_296 335 299 (by decide) rfl (fun c296 => ?_) (fun c296 => by exfalso; omega)
    refine Ok.iload cx at_335 rfl 337 rfl ?_
    exact Ok.zreturn cx at_337 (by decide) (by decide) rfl
  · skip
    clear m2
    refine Ok.istore cx at_3 rfl One.u [.val (.int p0), .val (.long p1), .second, .val (.long p2), .second, .val (.long p3), .second, .val (.int t2), .unset, .unset, .unset, .unset, .unset, .unset, .unset, .unset, .unset, .unset, .unset] rfl 5 rfl ?_
    refine Ok.lloadN cx at_5 rfl 6 rfl ?_
    refine Ok.callStatic cx [(.long p1)] [] rfl (own_w hw 0 rfl) (own_w hw 1 rfl) (own_w hw 2 rfl) (own_w hw 3 rfl) at_6 (by decide) pd_1 rfl rfl  (rm_1 W.l Z a0 hw p1 h n0 Z0) (by decide) 0 rfl (by decide) (by decide) (by decide) 9 rfl fun v6 h6_ q6 => ?_
    obtain ⟨rfl, r6, rfl, x6⟩ := q6
    show Ok _ _ _ _ _ _ _ _ _ [(.int r6)]
    refine Ok.istore cx at_9 rfl One.u [.val (.int p0), .val (.long p1), .second, .val (.long p2), .second, .val (.long p3), .second, .val (.int t2), .val (.int r6), .unset, .unset, .unset, .unset, .unset, .unset, .unset, .unset, .unset, .unset] rfl 11 rfl ?_
    refine Ok.lloadN cx at_11 rfl 12 rfl ?_
    refine Ok.callStatic cx [(.long p2)] [] rfl (own_w hw 0 rfl) (own_w hw 1 rfl) (own_w hw 2 rfl) (own_w hw 3 rfl) at_12 (by decide) pd_1 rfl rfl  (rm_1 W.l Z a0 hw p2 h n0 Z0) (by decide) 0 rfl (by decide) (by decide) (by decide) 15 rfl fun v12 h12_ q12 => ?_
    obtain ⟨rfl, r12, rfl, x12⟩ := q12
    show Ok _ _ _ _ _ _ _ _ _ [(.int r12)]
    refine Ok.istore cx at_15 rfl One.u [.val (.int p0), .val (.long p1), .second, .val (.long p2), .second, .val (.long p3), .second, .val (.int t2), .val (.int r6), .val (.int r12), .unset, .unset, .unset, .unset, .unset, .unset, .unset, .unset, .unset] rfl 17 rfl ?_
    refine Ok.lload cx at_17 rfl 19 rfl ?_
    refine Ok.callStatic cx [(.long p3)] [] rfl (own_w hw 0 rfl) (own_w hw 1 rfl) (own_w hw 2 rfl) (own_w hw 3 rfl) at_19 (by decide) pd_1 rfl rfl  (rm_1 W.l Z a0 hw p3 h n0 Z0) (by decide) 0 rfl (by decide) (by decide) (by decide) 22 rfl fun v19 h19_ q19 => ?_
    obtain ⟨rfl, r19, rfl, x19⟩ := q19
    show Ok _ _ _ _ _ _ _ _ _ [(.int r19)]
    refine Ok.istore cx at_22 rfl One.u [.val (.int p0), .val (.long p1), .second, .val (.long p2), .second, .val (.long p3), .second, .val (.int t2), .val (.int r6), .val (.int r12), .val (.int r19), .unset, .unset, .unset, .unset, .unset, .unset, .unset, .unset] rfl 24 rfl ?_
    refine Ok.lloadN cx at_24 rfl 25 rfl ?_
    refine Ok.iload cx at_25 rfl 27 rfl ?_
    refine Ok.callStatic cx [(.long p1), (.int r6)] [] rfl (own_w hw 8 rfl) (own_w hw 9 rfl) (own_w hw 2 rfl) (own_w hw 10 rfl) at_27 (by decide) pd_2 rfl rfl  (rm_3 W.l Z a0 hw p1 r6 h n0 Z0 (by omega)) (by decide) 0 rfl (by decide) (by decide) (by decide) 30 rfl fun v27 h27_ q27 => ?_
    obtain ⟨rfl, r27, rfl, x27⟩ := q27
    show Ok _ _ _ _ _ _ _ _ _ [(.int r27)]
    refine Ok.istore cx at_30 rfl One.u [.val (.int p0), .val (.long p1), .second, .val (.long p2), .second, .val (.long p3), .second, .val (.int t2), .val (.int r6), .val (.int r12), .val (.int r19), .val (.int r27), .unset, .unset, .unset, .unset, .unset, .unset, .unset] rfl 32 rfl ?_
    refine Ok.lloadN cx at_32 rfl 33 rfl ?_
    refine Ok.iload cx at_33 rfl 35 rfl ?_
    refine Ok.callStatic cx [(.long p2), (.int r12)] [] rfl (own_w hw 8 rfl) (own_w hw 9 rfl) (own_w hw 2 rfl) (own_w hw 10 rfl) at_35 (by decide) pd_2 rfl rfl  (rm_3 W.l Z a0 hw p2 r12 h n0 Z0 (by omega)) (by decide) 0 rfl (by decide) (by decide) (by decide) 38 rfl fun v35 h35_ q35 => ?_
    obtain ⟨rfl, r35, rfl, x35⟩ := q35
    show Ok _ _ _ _ _ _ _ _ _ [(.int r35)]
    refine Ok.istore cx at_38 rfl One.u [.val (.int p0), .val (.long p1), .second, .val (.long p2), .second, .val (.long p3), .second, .val (.int t2), .val (.int r6), .val (.int r12), .val (.int r19), .val (.int r27), .val (.int r35), .unset, .unset, .unset, .unset, .unset, .unset] rfl 40 rfl ?_
    refine Ok.lload cx at_40 rfl 42 rfl ?_
    refine Ok.iload cx at_42 rfl 44 rfl ?_
    refine Ok.callStatic cx [(.long p3), (.int r19)] [] rfl (own_w hw 8 rfl) (own_w hw 9 rfl) (own_w hw 2 rfl) (own_w hw 10 rfl) at_44 (by decide) pd_2 rfl rfl  (rm_3 W.l Z a0 hw p3 r19 h n0 Z0 (by omega)) (by decide) 0 rfl (by decide) (by decide) (by decide) 47 rfl fun v44 h44_ q44 => ?_
    obtain ⟨rfl, r44, rfl, x44⟩ := q44
    show Ok _ _ _ _ _ _ _ _ _ [(.int r44)]
    refine Ok.istore cx at_47 rfl One.u [.val (.int p0), .val (.long p1), .second, .val (.long p2), .second, .val (.long p3), .second, .val (.int t2), .val (.int r6), .val (.int r12), .val (.int r19), .val (.int r27), .val (.int r35), .val (.int r44), .unset, .unset, .unset, .unset, .unset] rfl 49 rfl ?_
    refine Ok.iload cx at_49 rfl 51 rfl ?_
    refine Ok.newarray cx (own_w hw 11 rfl) at_51 rfl (1) hm (by omega) 3 (by omega) (by omega) (by decide) (by decide) 53 rfl fun h51_ a g51 E51 V51 => ?_
    have za : n0 ≤ a := by rw [g51]; exact Z0
    have Z0 := Nat.le_trans Z0 E51.1
    refine Ok.astore cx at_53 rfl One.u [.val (.int p0), .val (.long p1), .second, .val (.long p2), .second, .val (.long p3), .second, .val (.int t2), .val (.int r6), .val (.int r12), .val (.int r19), .val (.int r27), .val (.int r35), .val (.int r44), .val (.ref a), .unset, .unset, .unset, .unset] rfl 55 rfl ?_
    refine Ok.iload cx at_55 rfl 57 rfl ?_
    refine Ok.newarray cx (own_w hw 11 rfl) at_57 rfl (1) hm (by omega) 3 (by omega) (by omega) (by decide) (by decide) 59 rfl fun h57_ b g57 E57 V57 => ?_
    have zb : n0 ≤ b := by rw [g57]; exact Z0
    have ne_a_b : a ≠ b := by rw [g57]; exact Nat.ne_of_lt V51.lt
    have Z0 := Nat.le_trans Z0 E57.1
    have V51 := V51.ext E57
    have V51 : AI Z h57_ a .int [(.int 0)] := V51
    have V57 : AI Z h57_ b .int [(.int 0)] := V57
    have nab : a ≠ b := ne_a_b
    refine Ok.astore cx at_59 rfl One.u [.val (.int p0), .val (.long p1), .second, .val (.long p2), .second, .val (.long p3), .second, .val (.int t2), .val (.int r6), .val (.int r12), .val (.int r19), .val (.int r27), .val (.int r35), .val (.int r44), .val (.ref a), .val (.ref b), .unset, .unset, .unset] rfl 61 rfl ?_
    refine Ok.iload cx at_61 rfl 63 rfl ?_
    refine Ok.iconst cx at_63 64 rfl (1 : Int32) rfl ?_
    refine Ok.icmp_lt cx at_64 79 67 (by decide) rfl (fun c64 => by exfalso; omega) (fun c64 => ?_)
    refine Ok.aload cx at_67 rfl 69 rfl ?_
    refine Ok.iconst cx at_69 70 rfl (0 : Int32) rfl ?_
    refine Ok.iload cx at_70 rfl 72 rfl ?_
    refine Ok.iastore cx at_72 V51 (0) rfl (by simp) (by first | assumption | omega) 73 rfl fun h72_ W72 G72 => ?_
    have Z0 := Nat.le_trans Z0 (Nat.le_of_eq W72.size.symm)
    have V57 := V57.other W72 (by first | assumption | (apply Ne.symm; assumption))
    have V51 := G72
    have V51 : AI Z h72_ a .int [(.int r27)] := V51
    refine Ok.aload cx at_73 rfl 75 rfl ?_
    refine Ok.iconst cx at_75 76 rfl (0 : Int32) rfl ?_
    refine Ok.iload cx at_76 rfl 78 rfl ?_
    refine Ok.iastore cx at_78 V57 (0) rfl (by simp) (by first | assumption | omega) 79 rfl fun h78_ W78 G78 => ?_
    have Z0 := Nat.le_trans Z0 (Nat.le_of_eq W78.size.symm)
    have V51 := V51.other W78 (by first | assumption | (apply Ne.symm; assumption))
    have V57 := G78
    have V57 : AI Z h78_ b .int [(.int r6)] := V57
    refine Ok.iload cx at_79 rfl 81 rfl ?_
    refine Ok.iconst cx at_81 82 rfl (2 : Int32) rfl ?_
    refine Ok.icmp_lt cx at_82 97 85 (by decide) rfl (fun c82 => ?_) (fun c82 => by exfalso; omega)
    refine Ok.iload cx at_97 rfl 99 rfl ?_
    refine Ok.iconst cx at_99 100 rfl (3 : Int32) rfl ?_
    refine Ok.icmp_lt cx at_100 115 103 (by decide) rfl (fun c100 => ?_) (fun c100 => by exfalso; omega)
    refine Ok.iconst cx at_115 116 rfl (-1 : Int32) rfl ?_
    refine Ok.istore cx at_116 rfl One.u [.val (.int p0), .val (.long p1), .second, .val (.long p2), .second, .val (.long p3), .second, .val (.int t2), .val (.int r6), .val (.int r12), .val (.int r19), .val (.int r27), .val (.int r35), .val (.int r44), .val (.ref a), .val (.ref b), .val (.int (-1 : Int32)), .unset, .unset] rfl 118 rfl ?_
    refine Ok.iload cx at_118 rfl 120 rfl ?_
    refine Ok.iconst cx at_120 121 rfl (3 : Int32) rfl ?_
    refine Ok.icmp_lt cx at_121 139 124 (by decide) rfl (fun c121 => ?_) (fun c121 => by exfalso; omega)
    refine Ok.iload cx at_139 rfl 141 rfl ?_
    refine Ok.iconst cx at_141 142 rfl (2 : Int32) rfl ?_
    refine Ok.icmp_lt cx at_142 160 145 (by decide) rfl (fun c142 => ?_) (fun c142 => by exfalso; omega)
    refine Ok.iload cx at_160 rfl 162 rfl ?_
    refine Ok.iconst cx at_162 163 rfl (1 : Int32) rfl ?_
    refine Ok.icmp_lt cx at_163 178 166 (by decide) rfl (fun c163 => by exfalso; omega) (fun c163 => ?_)
    refine Ok.iload cx at_166 rfl 168 rfl ?_
    refine Ok.iload cx at_168 rfl 170 rfl ?_
    refine Ok.iconst cx at_170 171 rfl (1 : Int32) rfl ?_
    refine Ok.isub cx at_171 172 rfl fun t171 e171 => ?_
    have s171 := own_sub e171 (by omega) (by have := rng32 r6; omega)
    refine Ok.icmp_eq cx at_172 178 175 (by decide) rfl (fun c172 => ?_) (fun c172 => ?_)
    · skip
      refine Ok.aload cx at_178 rfl 180 rfl ?_
      refine Ok.aload cx at_180 rfl 182 rfl ?_
      refine Ok.callStatic cx [(.ref a), (.ref b)] [] rfl (own_w hw 12 rfl) (own_w hw 13 rfl) (own_w hw 14 rfl) (own_w hw 15 rfl) at_182 (by decide) pd_3 rfl rfl  (rm_4_1 W.l Z a0 hw a b r27 r6 h78_ n0 Z0 V51 V57 nab za (by have := rng32 r6; omega)) (by decide) 0 rfl (by decide) (by decide) (by decide) 185 rfl fun v182 h182_ q182 => ?_
      obtain ⟨Z0, V57, r182, rfl, x182⟩ := q182
      show Ok _ _ _ _ _ _ _ _ _ [(.int r182)]
      obtain ⟨x182, y, V51⟩ : r182.toInt = 0 ∧ ∃ y : Int32, AI Z h182_ a .int [(.int 0)] := by
        rcases x182 with ⟨z1, z2, z3⟩ | ⟨z1, z2, z3⟩
        · exfalso; omega
        · exact ⟨z1, z3⟩
      refine Ok.istore cx at_185 rfl One.u [.val (.int p0), .val (.long p1), .second, .val (.long p2), .second, .val (.long p3), .second, .val (.int t2), .val (.int r6), .val (.int r12), .val (.int r19), .val (.int r27), .val (.int r35), .val (.int r44), .val (.ref a), .val (.ref b), .val (.int (-1 : Int32)), .val (.int r182), .unset] rfl 187 rfl ?_
      refine Ok.iload cx at_187 rfl 189 rfl ?_
      refine Ok.iload cx at_189 rfl 191 rfl ?_
      refine Ok.if_lt cx at_191 198 194 (by decide) rfl (fun c191 => ?_) (fun c191 => by exfalso; omega)
      refine Ok.iconst cx at_198 199 rfl (0 : Int32) rfl ?_
      refine Ok.icmp_ne cx at_199 206 202 (by decide) rfl (fun c199 => by exfalso; omega) (fun c199 => ?_)
      refine Ok.iconst cx at_202 203 rfl (1 : Int32) rfl ?_
      refine Ok.goto cx at_203 207 (by decide) ?_
      refine Ok.istore cx at_207 rfl One.u [.val (.int p0), .val (.long p1), .second, .val (.long p2), .second, .val (.long p3), .second, .val (.int t2), .val (.int r6), .val (.int r12), .val (.int r19), .val (.int r27), .val (.int r35), .val (.int r44), .val (.ref a), .val (.ref b), .val (.int (-1 : Int32)), .val (.int r182), .val (.int (1 : Int32))] rfl 209 rfl ?_
      refine Ok.iload cx at_209 rfl 211 rfl ?_
      refine Ok.iconst cx at_211 212 rfl (1 : Int32) rfl ?_
      refine Ok.icmp_lt cx at_212 251 215 (by decide) rfl (fun c212 => by exfalso; omega) (fun c212 => ?_)
      refine Ok.iload cx at_215 rfl 217 rfl ?_
      refine Ok.if_eq cx at_217 248 220 (by decide) rfl (fun c217 => by exfalso; omega) (fun c217 => ?_)
      refine Ok.aload cx at_220 rfl 222 rfl ?_
      refine Ok.iconst cx at_222 223 rfl (0 : Int32) rfl ?_
      refine Ok.iaload cx at_223 V51 (0) rfl (v := (.int (0 : Int32))) rfl 224 rfl ?_
      refine Ok.iconst cx at_224 225 rfl (0 : Int32) rfl ?_
      refine Ok.iload cx at_225 rfl 227 rfl ?_
      refine Ok.iload cx at_227 rfl 229 rfl ?_
      refine Ok.callStatic cx [(.int (0 : Int32)), (.int r27), (.int (-1 : Int32))] [(.int (0 : Int32))] rfl (own_w hw 16 rfl) (own_w hw 17 rfl) (own_w hw 2 rfl) (own_w hw 18 rfl) at_229 (by decide) pd_4 rfl rfl  (rm_5 W.l Z a0 hw (0 : Int32) r27 (-1 : Int32) h182_ n0 Z0 (by have := rng32 r6; omega)) (by decide) 1 rfl (by decide) (by decide) (by decide) 232 rfl fun v229 h229_ q229 => ?_
      obtain ⟨rfl, r229, rfl, x229⟩ := q229
      show Ok _ _ _ _ _ _ _ _ _ [(.int r229), (.int (0 : Int32))]
      refine Ok.icmp_ne cx at_232 248 235 (by decide) rfl (fun c232 => by exfalso; omega) (fun c232 => ?_)
      refine Ok.aload cx at_235 rfl 237 rfl ?_
      refine Ok.iconst cx at_237 238 rfl (0 : Int32) rfl ?_
      refine Ok.iaload cx at_238 V57 (0) rfl (v := (.int r6)) rfl 239 rfl ?_
      refine Ok.iload cx at_239 rfl 241 rfl ?_
      refine Ok.icmp_ne cx at_241 248 244 (by decide) rfl (fun c241 => by exfalso; omega) (fun c241 => ?_)
      refine Ok.iconst cx at_244 245 rfl (1 : Int32) rfl ?_
      refine Ok.goto cx at_245 249 (by decide) ?_
      refine Ok.istore cx at_249 rfl (One.val rfl) [.val (.int p0), .val (.long p1), .second, .val (.long p2), .second, .val (.long p3), .second, .val (.int t2), .val (.int r6), .val (.int r12), .val (.int r19), .val (.int r27), .val (.int r35), .val (.int r44), .val (.ref a), .val (.ref b), .val (.int (-1 : Int32)), .val (.int r182), .val (.int (1 : Int32))] rfl 251 rfl ?_
      refine Ok.iload cx at_251 rfl 253 rfl ?_
      refine Ok.iconst cx at_253 254 rfl (2 : Int32) rfl ?_
      refine Ok.icmp_lt cx at_254 293 257 (by decide) rfl (fun c254 => ?_) (fun c254 => by exfalso; omega)
      refine Ok.iload cx at_293 rfl 295 rfl ?_
      refine Ok.iconst cx at_295 296 rfl (3 : Int32) rfl ?_
      refine Ok.icmp_lt cx at_296 335 299 (by decide) rfl (fun c296 => ?_) (fun c296 => by exfalso; omega)
      refine Ok.iload cx at_335 rfl 337 rfl ?_
      exact Ok.zreturn cx at_337 (by decide) (by decide) rfl
    · skip
      refine Ok.iconst cx at_175 176 rfl (0 : Int32) rfl ?_
      refine Ok.istore cx at_176 rfl (One.val rfl) [.val (.int p0), .val (.long p1), .second, .val (.long p2), .second, .val (.long p3), .second, .val (.int t2), .val (.int r6), .val (.int r12), .val (.int r19), .val (.int r27), .val (.int r35), .val (.int r44), .val (.ref a), .val (.ref b), .val (.int (0 : Int32)), .unset, .unset] rfl 178 rfl ?_
      refine Ok.aload cx at_178 rfl 180 rfl ?_
      refine Ok.aload cx at_180 rfl 182 rfl ?_
      refine Ok.callStatic cx [(.ref a), (.ref b)] [] rfl (own_w hw 12 rfl) (own_w hw 13 rfl) (own_w hw 14 rfl) (own_w hw 15 rfl) at_182 (by decide) pd_3 rfl rfl  (rm_4_1 W.l Z a0 hw a b r27 r6 h78_ n0 Z0 V51 V57 nab za (by have := rng32 r6; omega)) (by decide) 0 rfl (by decide) (by decide) (by decide) 185 rfl fun v182 h182_ q182 => ?_
      obtain ⟨Z0, V57, r182, rfl, x182⟩ := q182
      show Ok _ _ _ _ _ _ _ _ _ [(.int r182)]
      obtain ⟨x182, y, xy, V51⟩ : r182.toInt = 1 ∧ ∃ y : Int32, y.toInt = r27.toInt + 1 ∧ AI Z h182_ a .int [(.int y)] := by
        rcases x182 with ⟨z1, z2, z3⟩ | ⟨z1, z2, z3⟩
        · exact ⟨z1, z3⟩
        · exfalso; omega
      refine Ok.istore cx at_185 rfl One.u [.val (.int p0), .val (.long p1), .second, .val (.long p2), .second, .val (.long p3), .second, .val (.int t2), .val (.int r6), .val (.int r12), .val (.int r19), .val (.int r27), .val (.int r35), .val (.int r44), .val (.ref a), .val (.ref b), .val (.int (0 : Int32)), .val (.int r182), .unset] rfl 187 rfl ?_
      refine Ok.iload cx at_187 rfl 189 rfl ?_
      refine Ok.iload cx at_189 rfl 191 rfl ?_
      refine Ok.if_lt cx at_191 198 194 (by decide) rfl (fun c191 => by exfalso; omega) (fun c191 => ?_)
      refine Ok.iconst cx at_194 195 rfl (1 : Int32) rfl ?_
      refine Ok.goto cx at_195 199 (by decide) ?_
      refine Ok.icmp_ne cx at_199 206 202 (by decide) rfl (fun c199 => by exfalso; omega) (fun c199 => ?_)
      refine Ok.iconst cx at_202 203 rfl (1 : Int32) rfl ?_
      refine Ok.goto cx at_203 207 (by decide) ?_
      refine Ok.istore cx at_207 rfl One.u [.val (.int p0), .val (.long p1), .second, .val (.long p2), .second, .val (.long p3), .second, .val (.int t2), .val (.int r6), .val (.int r12), .val (.int r19), .val (.int r27), .val (.int r35), .val (.int r44), .val (.ref a), .val (.ref b), .val (.int (0 : Int32)), .val (.int r182), .val (.int (1 : Int32))] rfl 209 rfl ?_
      refine Ok.iload cx at_209 rfl 211 rfl ?_
      refine Ok.iconst cx at_211 212 rfl (1 : Int32) rfl ?_
      refine Ok.icmp_lt cx at_212 251 215 (by decide) rfl (fun c212 => by exfalso; omega) (fun c212 => ?_)
      refine Ok.iload cx at_215 rfl 217 rfl ?_
      refine Ok.if_eq cx at_217 248 220 (by decide) rfl (fun c217 => by exfalso; omega) (fun c217 => ?_)
      refine Ok.aload cx at_220 rfl 222 rfl ?_
      refine Ok.iconst cx at_222 223 rfl (0 : Int32) rfl ?_
      refine Ok.iaload cx at_223 V51 (0) rfl (v := (.int y)) rfl 224 rfl ?_
      refine Ok.iconst cx at_224 225 rfl (0 : Int32) rfl ?_
      refine Ok.iload cx at_225 rfl 227 rfl ?_
      refine Ok.iload cx at_227 rfl 229 rfl ?_
      refine Ok.callStatic cx [(.int (0 : Int32)), (.int r27), (.int (0 : Int32))] [(.int y)] rfl (own_w hw 16 rfl) (own_w hw 17 rfl) (own_w hw 2 rfl) (own_w hw 18 rfl) at_229 (by decide) pd_4 rfl rfl  (rm_5 W.l Z a0 hw (0 : Int32) r27 (0 : Int32) h182_ n0 Z0 (by have := rng32 r6; omega)) (by decide) 1 rfl (by decide) (by decide) (by decide) 232 rfl fun v229 h229_ q229 => ?_
      obtain ⟨rfl, r229, rfl, x229⟩ := q229
      show Ok _ _ _ _ _ _ _ _ _ [(.int r229), (.int y)]
      refine Ok.icmp_ne cx at_232 248 235 (by decide) rfl (fun c232 => by exfalso; omega) (fun c232 => ?_)
      refine Ok.aload cx at_235 rfl 237 rfl ?_
      refine Ok.iconst cx at_237 238 rfl (0 : Int32) rfl ?_
      refine Ok.iaload cx at_238 V57 (0) rfl (v := (.int r6)) rfl 239 rfl ?_
      refine Ok.iload cx at_239 rfl 241 rfl ?_
      refine Ok.icmp_ne cx at_241 248 244 (by decide) rfl (fun c241 => by exfalso; omega) (fun c241 => ?_)
      refine Ok.iconst cx at_244 245 rfl (1 : Int32) rfl ?_
      refine Ok.goto cx at_245 249 (by decide) ?_
      refine Ok.istore cx at_249 rfl (One.val rfl) [.val (.int p0), .val (.long p1), .second, .val (.long p2), .second, .val (.long p3), .second, .val (.int t2), .val (.int r6), .val (.int r12), .val (.int r19), .val (.int r27), .val (.int r35), .val (.int r44), .val (.ref a), .val (.ref b), .val (.int (0 : Int32)), .val (.int r182), .val (.int (1 : Int32))] rfl 251 rfl ?_
      refine Ok.iload cx at_251 rfl 253 rfl ?_
      refine Ok.iconst cx at_253 254 rfl (2 : Int32) rfl ?_
      refine Ok.icmp_lt cx at_254 293 257 (by decide) rfl (fun c254 => ?_) (fun c254 => by exfalso; omega)
      refine Ok.iload cx at_293 rfl 295 rfl ?_
      refine Ok.iconst cx at_295 296 rfl (3 : Int32) rfl ?_
      refine Ok.icmp_lt cx at_296 335 299 (by decide) rfl (fun c296 => ?_) (fun c296 => by exfalso; omega)
      refine Ok.iload cx at_335 rfl 337 rfl ?_
      exact Ok.zreturn cx at_337 (by decide) (by decide) rfl
  · skip
    clear m2
    refine Ok.istore cx at_3 rfl One.u [.val (.int p0), .val (.long p1), .second, .val (.long p2), .second, .val (.long p3), .second, .val (.int t2), .unset, .unset, .unset, .unset, .unset, .unset, .unset, .unset, .unset, .unset, .unset] rfl 5 rfl ?_
    refine Ok.lloadN cx at_5 rfl 6 rfl ?_
    refine Ok.callStatic cx [(.long p1)] [] rfl (own_w hw 0 rfl) (own_w hw 1 rfl) (own_w hw 2 rfl) (own_w hw 3 rfl) at_6 (by decide) pd_1 rfl rfl  (rm_1 W.l Z a0 hw p1 h n0 Z0) (by decide) 0 rfl (by decide) (by decide) (by decide) 9 rfl fun v6 h6_ q6 => ?_
    obtain ⟨rfl, r6, rfl, x6⟩ := q6
    show Ok _ _ _ _ _ _ _ _ _ [(.int r6)]
    refine Ok.istore cx at_9 rfl One.u [.val (.int p0), .val (.long p1), .second, .val (.long p2), .second, .val (.long p3), .second, .val (.int t2), .val (.int r6), .unset, .unset, .unset, .unset, .unset, .unset, .unset, .unset, .unset, .unset] rfl 11 rfl ?_
    refine Ok.lloadN cx at_11 rfl 12 rfl ?_
    refine Ok.callStatic cx [(.long p2)] [] rfl (own_w hw 0 rfl) (own_w hw 1 rfl) (own_w hw 2 rfl) (own_w hw 3 rfl) at_12 (by decide) pd_1 rfl rfl  (rm_1 W.l Z a0 hw p2 h n0 Z0) (by decide) 0 rfl (by decide) (by decide) (by decide) 15 rfl fun v12 h12_ q12 => ?_
    obtain ⟨rfl, r12, rfl, x12⟩ := q12
    show Ok _ _ _ _ _ _ _ _ _ [(.int r12)]
    refine Ok.istore cx at_15 rfl One.u [.val (.int p0), .val (.long p1), .second, .val (.long p2), .second, .val (.long p3), .second, .val (.int t2), .val (.int r6), .val (.int r12), .unset, .unset, .unset, .unset, .unset, .unset, .unset, .unset, .unset] rfl 17 rfl ?_
    refine Ok.lload cx at_17 rfl 19 rfl ?_
    refine Ok.callStatic cx [(.long p3)] [] rfl (own_w hw 0 rfl) (own_w hw 1 rfl) (own_w hw 2 rfl) (own_w hw 3 rfl) at_19 (by decide) pd_1 rfl rfl  (rm_1 W.l Z a0 hw p3 h n0 Z0) (by decide) 0 rfl (by decide) (by decide) (by decide) 22 rfl fun v19 h19_ q19 => ?_
    obtain ⟨rfl, r19, rfl, x19⟩ := q19
    show Ok _ _ _ _ _ _ _ _ _ [(.int r19)]
    refine Ok.istore cx at_22 rfl One.u [.val (.int p0), .val (.long p1), .second, .val (.long p2), .second, .val (.long p3), .second, .val (.int t2), .val (.int r6), .val (.int r12), .val (.int r19), .unset, .unset, .unset, .unset, .unset, .unset, .unset, .unset] rfl 24 rfl ?_
    refine Ok.lloadN cx at_24 rfl 25 rfl ?_
    refine Ok.iload cx at_25 rfl 27 rfl ?_
    refine Ok.callStatic cx [(.long p1), (.int r6)] [] rfl (own_w hw 8 rfl) (own_w hw 9 rfl) (own_w hw 2 rfl) (own_w hw 10 rfl) at_27 (by decide) pd_2 rfl rfl  (rm_3 W.l Z a0 hw p1 r6 h n0 Z0 (by omega)) (by decide) 0 rfl (by decide) (by decide) (by decide) 30 rfl fun v27 h27_ q27 => ?_
    obtain ⟨rfl, r27, rfl, x27⟩ := q27
    show Ok _ _ _ _ _ _ _ _ _ [(.int r27)]
    refine Ok.istore cx at_30 rfl One.u [.val (.int p0), .val (.long p1), .second, .val (.long p2), .second, .val (.long p3), .second, .val (.int t2), .val (.int r6), .val (.int r12), .val (.int r19), .val (.int r27), .unset, .unset, .unset, .unset, .unset, .unset, .unset] rfl 32 rfl ?_
    refine Ok.lloadN cx at_32 rfl 33 rfl ?_
    refine Ok.iload cx at_33 rfl 35 rfl ?_
    refine Ok.callStatic cx [(.long p2), (.int r12)] [] rfl (own_w hw 8 rfl) (own_w hw 9 rfl) (own_w hw 2 rfl) (own_w hw 10 rfl) at_35 (by decide) pd_2 rfl rfl  (rm_3 W.l Z a0 hw p2 r12 h n0 Z0 (by omega)) (by decide) 0 rfl (by decide) (by decide) (by decide) 38 rfl fun v35 h35_ q35 => ?_
    obtain ⟨rfl, r35, rfl, x35⟩ := q35
    show Ok _ _ _ _ _ _ _ _ _ [(.int r35)]
    refine Ok.istore cx at_38 rfl One.u [.val (.int p0), .val (.long p1), .second, .val (.long p2), .second, .val (.long p3), .second, .val (.int t2), .val (.int r6), .val (.int r12), .val (.int r19), .val (.int r27), .val (.int r35), .unset, .unset, .unset, .unset, .unset, .unset] rfl 40 rfl ?_
    refine Ok.lload cx at_40 rfl 42 rfl ?_
    refine Ok.iload cx at_42 rfl 44 rfl ?_
    refine Ok.callStatic cx [(.long p3), (.int r19)] [] rfl (own_w hw 8 rfl) (own_w hw 9 rfl) (own_w hw 2 rfl) (own_w hw 10 rfl) at_44 (by decide) pd_2 rfl rfl  (rm_3 W.l Z a0 hw p3 r19 h n0 Z0 (by omega)) (by decide) 0 rfl (by decide) (by decide) (by decide) 47 rfl fun v44 h44_ q44 => ?_
    obtain ⟨rfl, r44, rfl, x44⟩ := q44
    show Ok _ _ _ _ _ _ _ _ _ [(.int r44)]
    refine Ok.istore cx at_47 rfl One.u [.val (.int p0), .val (.long p1), .second, .val (.long p2), .second, .val (.long p3), .second, .val (.int t2), .val (.int r6), .val (.int r12), .val (.int r19), .val (.int r27), .val (.int r35), .val (.int r44), .unset, .unset, .unset, .unset, .unset] rfl 49 rfl ?_
    refine Ok.iload cx at_49 rfl 51 rfl ?_
    refine Ok.newarray cx (own_w hw 11 rfl) at_51 rfl (2) hm (by omega) 3 (by omega) (by omega) (by decide) (by decide) 53 rfl fun h51_ a g51 E51 V51 => ?_
    have za : n0 ≤ a := by rw [g51]; exact Z0
    have Z0 := Nat.le_trans Z0 E51.1
    refine Ok.astore cx at_53 rfl One.u [.val (.int p0), .val (.long p1), .second, .val (.long p2), .second, .val (.long p3), .second, .val (.int t2), .val (.int r6), .val (.int r12), .val (.int r19), .val (.int r27), .val (.int r35), .val (.int r44), .val (.ref a), .unset, .unset, .unset, .unset] rfl 55 rfl ?_
    refine Ok.iload cx at_55 rfl 57 rfl ?_
    refine Ok.newarray cx (own_w hw 11 rfl) at_57 rfl (2) hm (by omega) 3 (by omega) (by omega) (by decide) (by decide) 59 rfl fun h57_ b g57 E57 V57 => ?_
    have zb : n0 ≤ b := by rw [g57]; exact Z0
    have ne_a_b : a ≠ b := by rw [g57]; exact Nat.ne_of_lt V51.lt
    have Z0 := Nat.le_trans Z0 E57.1
    have V51 := V51.ext E57
    have V51 : AI Z h57_ a .int [(.int 0), (.int 0)] := V51
    have V57 : AI Z h57_ b .int [(.int 0), (.int 0)] := V57
    have nab : a ≠ b := ne_a_b
    refine Ok.astore cx at_59 rfl One.u [.val (.int p0), .val (.long p1), .second, .val (.long p2), .second, .val (.long p3), .second, .val (.int t2), .val (.int r6), .val (.int r12), .val (.int r19), .val (.int r27), .val (.int r35), .val (.int r44), .val (.ref a), .val (.ref b), .unset, .unset, .unset] rfl 61 rfl ?_
    refine Ok.iload cx at_61 rfl 63 rfl ?_
    refine Ok.iconst cx at_63 64 rfl (1 : Int32) rfl ?_
    refine Ok.icmp_lt cx at_64 79 67 (by decide) rfl (fun c64 => by exfalso; omega) (fun c64 => ?_)
    refine Ok.aload cx at_67 rfl 69 rfl ?_
    refine Ok.iconst cx at_69 70 rfl (0 : Int32) rfl ?_
    refine Ok.iload cx at_70 rfl 72 rfl ?_
    refine Ok.iastore cx at_72 V51 (0) rfl (by simp) (by first | assumption | omega) 73 rfl fun h72_ W72 G72 => ?_
    have Z0 := Nat.le_trans Z0 (Nat.le_of_eq W72.size.symm)
    have V57 := V57.other W72 (by first | assumption | (apply Ne.symm; assumption))
    have V51 := G72
    have V51 : AI Z h72_ a .int [(.int r27), (.int 0)] := V51
    refine Ok.aload cx at_73 rfl 75 rfl ?_
    refine Ok.iconst cx at_75 76 rfl (0 : Int32) rfl ?_
    refine Ok.iload cx at_76 rfl 78 rfl ?_
    refine Ok.iastore cx at_78 V57 (0) rfl (by simp) (by first | assumption | omega) 79 rfl fun h78_ W78 G78 => ?_
    have Z0 := Nat.le_trans Z0 (Nat.le_of_eq W78.size.symm)
    have V51 := V51.other W78 (by first | assumption | (apply Ne.symm; assumption))
    have V57 := G78
    have V57 : AI Z h78_ b .int [(.int r6), (.int 0)] := V57
    refine Ok.iload cx at_79 rfl 81 rfl ?_
    refine Ok.iconst cx at_81 82 rfl (2 : Int32) rfl ?_
    refine Ok.icmp_lt cx at_82 97 85 (by decide) rfl (fun c82 => by exfalso; omega) (fun c82 => ?_)
    refine Ok.aload cx at_85 rfl 87 rfl ?_
    refine Ok.iconst cx at_87 88 rfl (1 : Int32) rfl ?_
    refine Ok.iload cx at_88 rfl 90 rfl ?_
    refine Ok.iastore cx at_90 V51 (1) rfl (by simp) (by first | assumption | omega) 91 rfl fun h90_ W90 G90 => ?_
    have Z0 := Nat.le_trans Z0 (Nat.le_of_eq W90.size.symm)
    have V57 := V57.other W90 (by first | assumption | (apply Ne.symm; assumption))
    have V51 := G90
    have V51 : AI Z h90_ a .int [(.int r27), (.int r35)] := V51
    refine Ok.aload cx at_91 rfl 93 rfl ?_
    refine Ok.iconst cx at_93 94 rfl (1 : Int32) rfl ?_
    refine Ok.iload cx at_94 rfl 96 rfl ?_
    refine Ok.iastore cx at_96 V57 (1) rfl (by simp) (by first | assumption | omega) 97 rfl fun h96_ W96 G96 => ?_
    have Z0 := Nat.le_trans Z0 (Nat.le_of_eq W96.size.symm)
    have V51 := V51.other W96 (by first | assumption | (apply Ne.symm; assumption))
    have V57 := G96
    have V57 : AI Z h96_ b .int [(.int r6), (.int r12)] := V57
    refine Ok.iload cx at_97 rfl 99 rfl ?_
    refine Ok.iconst cx at_99 100 rfl (3 : Int32) rfl ?_
    refine Ok.icmp_lt cx at_100 115 103 (by decide) rfl (fun c100 => ?_) (fun c100 => by exfalso; omega)
    refine Ok.iconst cx at_115 116 rfl (-1 : Int32) rfl ?_
    refine Ok.istore cx at_116 rfl One.u [.val (.int p0), .val (.long p1), .second, .val (.long p2), .second, .val (.long p3), .second, .val (.int t2), .val (.int r6), .val (.int r12), .val (.int r19), .val (.int r27), .val (.int r35), .val (.int r44), .val (.ref a), .val (.ref b), .val (.int (-1 : Int32)), .unset, .unset] rfl 118 rfl ?_
    refine Ok.iload cx at_118 rfl 120 rfl ?_
    refine Ok.iconst cx at_120 121 rfl (3 : Int32) rfl ?_
    refine Ok.icmp_lt cx at_121 139 124 (by decide) rfl (fun c121 => ?_) (fun c121 => by exfalso; omega)
    refine Ok.iload cx at_139 rfl 141 rfl ?_
    refine Ok.iconst cx at_141 142 rfl (2 : Int32) rfl ?_
    refine Ok.icmp_lt cx at_142 160 145 (by decide) rfl (fun c142 => by exfalso; omega) (fun c142 => ?_)
    refine Ok.iload cx at_145 rfl 147 rfl ?_
    refine Ok.iload cx at_147 rfl 149 rfl ?_
    refine Ok.iconst cx at_149 150 rfl (1 : Int32) rfl ?_
    refine Ok.isub cx at_150 151 rfl fun t150 e150 => ?_
    have s150 := own_sub e150 (by omega) (by have := rng32 r12; omega)
    refine Ok.icmp_eq cx at_151 160 154 (by decide) rfl (fun c151 => ?_) (fun c151 => ?_)
    · skip
      refine Ok.iload cx at_160 rfl 162 rfl ?_
      refine Ok.iconst cx at_162 163 rfl (1 : Int32) rfl ?_
      refine Ok.icmp_lt cx at_163 178 166 (by decide) rfl (fun c163 => by exfalso; omega) (fun c163 => ?_)
      refine Ok.iload cx at_166 rfl 168 rfl ?_
      refine Ok.iload cx at_168 rfl 170 rfl ?_
      refine Ok.iconst cx at_170 171 rfl (1 : Int32) rfl ?_
      refine Ok.isub cx at_171 172 rfl fun t171 e171 => ?_
      have s171 := own_sub e171 (by omega) (by have := rng32 r6; omega)
      refine Ok.icmp_eq cx at_172 178 175 (by decide) rfl (fun c172 => ?_) (fun c172 => ?_)
      · skip
        refine Ok.aload cx at_178 rfl 180 rfl ?_
        refine Ok.aload cx at_180 rfl 182 rfl ?_
        refine Ok.callStatic cx [(.ref a), (.ref b)] [] rfl (own_w hw 12 rfl) (own_w hw 13 rfl) (own_w hw 14 rfl) (own_w hw 15 rfl) at_182 (by decide) pd_3 rfl rfl  (rm_4_2 W.l Z a0 hw a b r27 r35 r6 r12 h96_ n0 Z0 V51 V57 nab za (by have := rng32 r6; omega) (by have := rng32 r12; omega)) (by decide) 0 rfl (by decide) (by decide) (by decide) 185 rfl fun v182 h182_ q182 => ?_
        obtain ⟨Z0, V57, r182, rfl, x182⟩ := q182
        show Ok _ _ _ _ _ _ _ _ _ [(.int r182)]
        obtain ⟨x182, y, V51⟩ : r182.toInt = 0 ∧ ∃ y : Int32, AI Z h182_ a .int [(.int 0), (.int 0)] := by
          rcases x182 with ⟨z1, z2, z3⟩ | ⟨z1, z2, z3⟩ | ⟨z1, z2, z3⟩
          · exfalso; omega
          · exfalso; omega
          · exact ⟨z1, z3⟩
        refine Ok.istore cx at_185 rfl One.u [.val (.int p0), .val (.long p1), .second, .val (.long p2), .second, .val (.long p3), .second, .val (.int t2), .val (.int r6), .val (.int r12), .val (.int r19), .val (.int r27), .val (.int r35), .val (.int r44), .val (.ref a), .val (.ref b), .val (.int (-1 : Int32)), .val (.int r182), .unset] rfl 187 rfl ?_
        refine Ok.iload cx at_187 rfl 189 rfl ?_
        refine Ok.iload cx at_189 rfl 191 rfl ?_
        refine Ok.if_lt cx at_191 198 194 (by decide) rfl (fun c191 => ?_) (fun c191 => by exfalso; omega)
        refine Ok.iconst cx at_198 199 rfl (0 : Int32) rfl ?_
        refine Ok.icmp_ne cx at_199 206 202 (by decide) rfl (fun c199 => by exfalso; omega) (fun c199 => ?_)
        refine Ok.iconst cx at_202 203 rfl (1 : Int32) rfl ?_
        refine Ok.goto cx at_203 207 (by decide) ?_
        refine Ok.istore cx at_207 rfl One.u [.val (.int p0), .val (.long p1), .second, .val (.long p2), .second, .val (.long p3), .second, .val (.int t2), .val (.int r6), .val (.int r12), .val (.int r19), .val (.int r27), .val (.int r35), .val (.int r44), .val (.ref a), .val (.ref b), .val (.int (-1 : Int32)), .val (.int r182), .val (.int (1 : Int32))] rfl 209 rfl ?_
        refine Ok.iload cx at_209 rfl 211 rfl ?_
        refine Ok.iconst cx at_211 212 rfl (1 : Int32) rfl ?_
        refine Ok.icmp_lt cx at_212 251 215 (by decide) rfl (fun c212 => by exfalso; omega) (fun c212 => ?_)
        refine Ok.iload cx at_215 rfl 217 rfl ?_
        refine Ok.if_eq cx at_217 248 220 (by decide) rfl (fun c217 => by exfalso; omega) (fun c217 => ?_)
        refine Ok.aload cx at_220 rfl 222 rfl ?_
        refine Ok.iconst cx at_222 223 rfl (0 : Int32) rfl ?_
        refine Ok.iaload cx at_223 V51 (0) rfl (v := (.int (0 : Int32))) rfl 224 rfl ?_
        refine Ok.iconst cx at_224 225 rfl (0 : Int32) rfl ?_
        refine Ok.iload cx at_225 rfl 227 rfl ?_
        refine Ok.iload cx at_227 rfl 229 rfl ?_
        refine Ok.callStatic cx [(.int (0 : Int32)), (.int r27), (.int (-1 : Int32))] [(.int (0 : Int32))] rfl (own_w hw 16 rfl) (own_w hw 17 rfl) (own_w hw 2 rfl) (own_w hw 18 rfl) at_229 (by decide) pd_4 rfl rfl  (rm_5 W.l Z a0 hw (0 : Int32) r27 (-1 : Int32) h182_ n0 Z0 (by have := rng32 r6; omega)) (by decide) 1 rfl (by decide) (by decide) (by decide) 232 rfl fun v229 h229_ q229 => ?_
        obtain ⟨rfl, r229, rfl, x229⟩ := q229
        show Ok _ _ _ _ _ _ _ _ _ [(.int r229), (.int (0 : Int32))]
        refine Ok.icmp_ne cx at_232 248 235 (by decide) rfl (fun c232 => by exfalso; omega) (fun c232 => ?_)
        refine Ok.aload cx at_235 rfl 237 rfl ?_
        refine Ok.iconst cx at_237 238 rfl (0 : Int32) rfl ?_
        refine Ok.iaload cx at_238 V57 (0) rfl (v := (.int r6)) rfl 239 rfl ?_
        refine Ok.iload cx at_239 rfl 241 rfl ?_
        refine Ok.icmp_ne cx at_241 248 244 (by decide) rfl (fun c241 => by exfalso; omega) (fun c241 => ?_)
        refine Ok.iconst cx at_244 245 rfl (1 : Int32) rfl ?_
        refine Ok.goto cx at_245 249 (by decide) ?_
        refine Ok.istore cx at_249 rfl (One.val rfl) [.val (.int p0), .val (.long p1), .second, .val (.long p2), .second, .val (.long p3), .second, .val (.int t2), .val (.int r6), .val (.int r12), .val (.int r19), .val (.int r27), .val (.int r35), .val (.int r44), .val (.ref a), .val (.ref b), .val (.int (-1 : Int32)), .val (.int r182), .val (.int (1 : Int32))] rfl 251 rfl ?_
        refine Ok.iload cx at_251 rfl 253 rfl ?_
        refine Ok.iconst cx at_253 254 rfl (2 : Int32) rfl ?_
        refine Ok.icmp_lt cx at_254 293 257 (by decide) rfl (fun c254 => by exfalso; omega) (fun c254 => ?_)
        refine Ok.iload cx at_257 rfl 259 rfl ?_
        refine Ok.if_eq cx at_259 290 262 (by decide) rfl (fun c259 => by exfalso; omega) (fun c259 => ?_)
        refine Ok.aload cx at_262 rfl 264 rfl ?_
        refine Ok.iconst cx at_264 265 rfl (1 : Int32) rfl ?_
        refine Ok.iaload cx at_265 V51 (1) rfl (v := (.int (0 : Int32))) rfl 266 rfl ?_
        refine Ok.iconst cx at_266 267 rfl (1 : Int32) rfl ?_
        refine Ok.iload cx at_267 rfl 269 rfl ?_
        refine Ok.iload cx at_269 rfl 271 rfl ?_
        refine Ok.callStatic cx [(.int (1 : Int32)), (.int r35), (.int (-1 : Int32))] [(.int (0 : Int32))] rfl (own_w hw 16 rfl) (own_w hw 17 rfl) (own_w hw 2 rfl) (own_w hw 18 rfl) at_271 (by decide) pd_4 rfl rfl  (rm_5 W.l Z a0 hw (1 : Int32) r35 (-1 : Int32) h182_ n0 Z0 (by have := rng32 r12; omega)) (by decide) 1 rfl (by decide) (by decide) (by decide) 274 rfl fun v271 h271_ q271 => ?_
        obtain ⟨rfl, r271, rfl, x271⟩ := q271
        show Ok _ _ _ _ _ _ _ _ _ [(.int r271), (.int (0 : Int32))]
        refine Ok.icmp_ne cx at_274 290 277 (by decide) rfl (fun c274 => by exfalso; omega) (fun c274 => ?_)
        refine Ok.aload cx at_277 rfl 279 rfl ?_
        refine Ok.iconst cx at_279 280 rfl (1 : Int32) rfl ?_
        refine Ok.iaload cx at_280 V57 (1) rfl (v := (.int r12)) rfl 281 rfl ?_
        refine Ok.iload cx at_281 rfl 283 rfl ?_
        refine Ok.icmp_ne cx at_283 290 286 (by decide) rfl (fun c283 => by exfalso; omega) (fun c283 => ?_)
        refine Ok.iconst cx at_286 287 rfl (1 : Int32) rfl ?_
        refine Ok.goto cx at_287 291 (by decide) ?_
        refine Ok.istore cx at_291 rfl (One.val rfl) [.val (.int p0), .val (.long p1), .second, .val (.long p2), .second, .val (.long p3), .second, .val (.int t2), .val (.int r6), .val (.int r12), .val (.int r19), .val (.int r27), .val (.int r35), .val (.int r44), .val (.ref a), .val (.ref b), .val (.int (-1 : Int32)), .val (.int r182), .val (.int (1 : Int32))] rfl 293 rfl ?_
        refine Ok.iload cx at_293 rfl 295 rfl ?_
        refine Ok.iconst cx at_295 296 rfl (3 : Int32) rfl ?_
        refine Ok.icmp_lt cx at_296 335 299 (by decide) rfl (fun c296 => ?_) (fun c296 => by exfalso; omega)
        refine Ok.iload cx at_335 rfl 337 rfl ?_
        exact Ok.zreturn cx at_337 (by decide) (by decide) rfl
      · skip
        refine Ok.iconst cx at_175 176 rfl (0 : Int32) rfl ?_
        refine Ok.istore cx at_176 rfl (One.val rfl) [.val (.int p0), .val (.long p1), .second, .val (.long p2), .second, .val (.long p3), .second, .val (.int t2), .val (.int r6), .val (.int r12), .val (.int r19), .val (.int r27), .val (.int r35), .val (.int r44), .val (.ref a), .val (.ref b), .val (.int (0 : Int32)), .unset, .unset] rfl 178 rfl ?_
        refine Ok.aload cx at_178 rfl 180 rfl ?_
        refine Ok.aload cx at_180 rfl 182 rfl ?_
        refine Ok.callStatic cx [(.ref a), (.ref b)] [] rfl (own_w hw 12 rfl) (own_w hw 13 rfl) (own_w hw 14 rfl) (own_w hw 15 rfl) at_182 (by decide) pd_3 rfl rfl  (rm_4_2 W.l Z a0 hw a b r27 r35 r6 r12 h96_ n0 Z0 V51 V57 nab za (by have := rng32 r6; omega) (by have := rng32 r12; omega)) (by decide) 0 rfl (by decide) (by decide) (by decide) 185 rfl fun v182 h182_ q182 => ?_
        obtain ⟨Z0, V57, r182, rfl, x182⟩ := q182
        show Ok _ _ _ _ _ _ _ _ _ [(.int r182)]
        obtain ⟨x182, y, xy, V51⟩ : r182.toInt = 1 ∧ ∃ y : Int32, y.toInt = r27.toInt + 1 ∧ AI Z h182_ a .int [(.int y), (.int 0)] := by
          rcases x182 with ⟨z1, z2, z3⟩ | ⟨z1, z2, z3⟩ | ⟨z1, z2, z3⟩
          · exfalso; omega
          · exact ⟨z1, z3⟩
          · exfalso; omega
        refine Ok.istore cx at_185 rfl One.u [.val (.int p0), .val (.long p1), .second, .val (.long p2), .second, .val (.long p3), .second, .val (.int t2), .val (.int r6), .val (.int r12), .val (.int r19), .val (.int r27), .val (.int r35), .val (.int r44), .val (.ref a), .val (.ref b), .val (.int (0 : Int32)), .val (.int r182), .unset] rfl 187 rfl ?_
        refine Ok.iload cx at_187 rfl 189 rfl ?_
        refine Ok.iload cx at_189 rfl 191 rfl ?_
        refine Ok.if_lt cx at_191 198 194 (by decide) rfl (fun c191 => by exfalso; omega) (fun c191 => ?_)
        refine Ok.iconst cx at_194 195 rfl (1 : Int32) rfl ?_
        refine Ok.goto cx at_195 199 (by decide) ?_
        refine Ok.icmp_ne cx at_199 206 202 (by decide) rfl (fun c199 => by exfalso; omega) (fun c199 => ?_)
        refine Ok.iconst cx at_202 203 rfl (1 : Int32) rfl ?_
        refine Ok.goto cx at_203 207 (by decide) ?_
        refine Ok.istore cx at_207 rfl One.u [.val (.int p0), .val (.long p1), .second, .val (.long p2), .second, .val (.long p3), .second, .val (.int t2), .val (.int r6), .val (.int r12), .val (.int r19), .val (.int r27), .val (.int r35), .val (.int r44), .val (.ref a), .val (.ref b), .val (.int (0 : Int32)), .val (.int r182), .val (.int (1 : Int32))] rfl 209 rfl ?_
        refine Ok.iload cx at_209 rfl 211 rfl ?_
        refine Ok.iconst cx at_211 212 rfl (1 : Int32) rfl ?_
        refine Ok.icmp_lt cx at_212 251 215 (by decide) rfl (fun c212 => by exfalso; omega) (fun c212 => ?_)
        refine Ok.iload cx at_215 rfl 217 rfl ?_
        refine Ok.if_eq cx at_217 248 220 (by decide) rfl (fun c217 => by exfalso; omega) (fun c217 => ?_)
        refine Ok.aload cx at_220 rfl 222 rfl ?_
        refine Ok.iconst cx at_222 223 rfl (0 : Int32) rfl ?_
        refine Ok.iaload cx at_223 V51 (0) rfl (v := (.int y)) rfl 224 rfl ?_
        refine Ok.iconst cx at_224 225 rfl (0 : Int32) rfl ?_
        refine Ok.iload cx at_225 rfl 227 rfl ?_
        refine Ok.iload cx at_227 rfl 229 rfl ?_
        refine Ok.callStatic cx [(.int (0 : Int32)), (.int r27), (.int (0 : Int32))] [(.int y)] rfl (own_w hw 16 rfl) (own_w hw 17 rfl) (own_w hw 2 rfl) (own_w hw 18 rfl) at_229 (by decide) pd_4 rfl rfl  (rm_5 W.l Z a0 hw (0 : Int32) r27 (0 : Int32) h182_ n0 Z0 (by have := rng32 r6; omega)) (by decide) 1 rfl (by decide) (by decide) (by decide) 232 rfl fun v229 h229_ q229 => ?_
        obtain ⟨rfl, r229, rfl, x229⟩ := q229
        show Ok _ _ _ _ _ _ _ _ _ [(.int r229), (.int y)]
        refine Ok.icmp_ne cx at_232 248 235 (by decide) rfl (fun c232 => by exfalso; omega) (fun c232 => ?_)
        refine Ok.aload cx at_235 rfl 237 rfl ?_
        refine Ok.iconst cx at_237 238 rfl (0 : Int32) rfl ?_
        refine Ok.iaload cx at_238 V57 (0) rfl (v := (.int r6)) rfl 239 rfl ?_
        refine Ok.iload cx at_239 rfl 241 rfl ?_
        refine Ok.icmp_ne cx at_241 248 244 (by decide) rfl (fun c241 => by exfalso; omega) (fun c241 => ?_)
        refine Ok.iconst cx at_244 245 rfl (1 : Int32) rfl ?_
        refine Ok.goto cx at_245 249 (by decide) ?_
        refine Ok.istore cx at_249 rfl (One.val rfl) [.val (.int p0), .val (.long p1), .second, .val (.long p2), .second, .val (.long p3), .second, .val (.int t2), .val (.int r6), .val (.int r12), .val (.int r19), .val (.int r27), .val (.int r35), .val (.int r44), .val (.ref a), .val (.ref b), .val (.int (0 : Int32)), .val (.int r182), .val (.int (1 : Int32))] rfl 251 rfl ?_
        refine Ok.iload cx at_251 rfl 253 rfl ?_
        refine Ok.iconst cx at_253 254 rfl (2 : Int32) rfl ?_
        refine Ok.icmp_lt cx at_254 293 257 (by decide) rfl (fun c254 => by exfalso; omega) (fun c254 => ?_)
        refine Ok.iload cx at_257 rfl 259 rfl ?_
        refine Ok.if_eq cx at_259 290 262 (by decide) rfl (fun c259 => by exfalso; omega) (fun c259 => ?_)
        refine Ok.aload cx at_262 rfl 264 rfl ?_
        refine Ok.iconst cx at_264 265 rfl (1 : Int32) rfl ?_
        refine Ok.iaload cx at_265 V51 (1) rfl (v := (.int (0 : Int32))) rfl 266 rfl ?_
        refine Ok.iconst cx at_266 267 rfl (1 : Int32) rfl ?_
        refine Ok.iload cx at_267 rfl 269 rfl ?_
        refine Ok.iload cx at_269 rfl 271 rfl ?_
        refine Ok.callStatic cx [(.int (1 : Int32)), (.int r35), (.int (0 : Int32))] [(.int (0 : Int32))] rfl (own_w hw 16 rfl) (own_w hw 17 rfl) (own_w hw 2 rfl) (own_w hw 18 rfl) at_271 (by decide) pd_4 rfl rfl  (rm_5 W.l Z a0 hw (1 : Int32) r35 (0 : Int32) h182_ n0 Z0 (by have := rng32 r12; omega)) (by decide) 1 rfl (by decide) (by decide) (by decide) 274 rfl fun v271 h271_ q271 => ?_
        obtain ⟨rfl, r271, rfl, x271⟩ := q271
        show Ok _ _ _ _ _ _ _ _ _ [(.int r271), (.int (0 : Int32))]
        refine Ok.icmp_ne cx at_274 290 277 (by decide) rfl (fun c274 => by exfalso; omega) (fun c274 => ?_)
        refine Ok.aload cx at_277 rfl 279 rfl ?_
        refine Ok.iconst cx at_279 280 rfl (1 : Int32) rfl ?_
        refine Ok.iaload cx at_280 V57 (1) rfl (v := (.int r12)) rfl 281 rfl ?_
        refine Ok.iload cx at_281 rfl 283 rfl ?_
        refine Ok.icmp_ne cx at_283 290 286 (by decide) rfl (fun c283 => by exfalso; omega) (fun c283 => ?_)
        refine Ok.iconst cx at_286 287 rfl (1 : Int32) rfl ?_
        refine Ok.goto cx at_287 291 (by decide) ?_
        refine Ok.istore cx at_291 rfl (One.val rfl) [.val (.int p0), .val (.long p1), .second, .val (.long p2), .second, .val (.long p3), .second, .val (.int t2), .val (.int r6), .val (.int r12), .val (.int r19), .val (.int r27), .val (.int r35), .val (.int r44), .val (.ref a), .val (.ref b), .val (.int (0 : Int32)), .val (.int r182), .val (.int (1 : Int32))] rfl 293 rfl ?_
        refine Ok.iload cx at_293 rfl 295 rfl ?_
        refine Ok.iconst cx at_295 296 rfl (3 : Int32) rfl ?_
        refine Ok.icmp_lt cx at_296 335 299 (by decide) rfl (fun c296 => ?_) (fun c296 => by exfalso; omega)
        refine Ok.iload cx at_335 rfl 337 rfl ?_
        exact Ok.zreturn cx at_337 (by decide) (by decide) rfl
    · skip
      refine Ok.iconst cx at_154 155 rfl (1 : Int32) rfl ?_
      refine Ok.istore cx at_155 rfl (One.val rfl) [.val (.int p0), .val (.long p1), .second, .val (.long p2), .second, .val (.long p3), .second, .val (.int t2), .val (.int r6), .val (.int r12), .val (.int r19), .val (.int r27), .val (.int r35), .val (.int r44), .val (.ref a), .val (.ref b), .val (.int (1 : Int32)), .unset, .unset] rfl 157 rfl ?_
      refine Ok.goto cx at_157 178 (by decide) ?_
      refine Ok.aload cx at_178 rfl 180 rfl ?_
      refine Ok.aload cx at_180 rfl 182 rfl ?_
      refine Ok.callStatic cx [(.ref a), (.ref b)] [] rfl (own_w hw 12 rfl) (own_w hw 13 rfl) (own_w hw 14 rfl) (own_w hw 15 rfl) at_182 (by decide) pd_3 rfl rfl  (rm_4_2 W.l Z a0 hw a b r27 r35 r6 r12 h96_ n0 Z0 V51 V57 nab za (by have := rng32 r6; omega) (by have := rng32 r12; omega)) (by decide) 0 rfl (by decide) (by decide) (by decide) 185 rfl fun v182 h182_ q182 => ?_
      obtain ⟨Z0, V57, r182, rfl, x182⟩ := q182
      show Ok _ _ _ _ _ _ _ _ _ [(.int r182)]
      obtain ⟨x182, y, xy, V51⟩ : r182.toInt = 1 ∧ ∃ y : Int32, y.toInt = r35.toInt + 1 ∧ AI Z h182_ a .int [(.int r27), (.int y)] := by
        rcases x182 with ⟨z1, z2, z3⟩ | ⟨z1, z2, z3⟩ | ⟨z1, z2, z3⟩
        · exact ⟨z1, z3⟩
        · exfalso; omega
        · exfalso; omega
      refine Ok.istore cx at_185 rfl One.u [.val (.int p0), .val (.long p1), .second, .val (.long p2), .second, .val (.long p3), .second, .val (.int t2), .val (.int r6), .val (.int r12), .val (.int r19), .val (.int r27), .val (.int r35), .val (.int r44), .val (.ref a), .val (.ref b), .val (.int (1 : Int32)), .val (.int r182), .unset] rfl 187 rfl ?_
      refine Ok.iload cx at_187 rfl 189 rfl ?_
      refine Ok.iload cx at_189 rfl 191 rfl ?_
      refine Ok.if_lt cx at_191 198 194 (by decide) rfl (fun c191 => by exfalso; omega) (fun c191 => ?_)
      refine Ok.iconst cx at_194 195 rfl (1 : Int32) rfl ?_
      refine Ok.goto cx at_195 199 (by decide) ?_
      refine Ok.icmp_ne cx at_199 206 202 (by decide) rfl (fun c199 => by exfalso; omega) (fun c199 => ?_)
      refine Ok.iconst cx at_202 203 rfl (1 : Int32) rfl ?_
      refine Ok.goto cx at_203 207 (by decide) ?_
      refine Ok.istore cx at_207 rfl One.u [.val (.int p0), .val (.long p1), .second, .val (.long p2), .second, .val (.long p3), .second, .val (.int t2), .val (.int r6), .val (.int r12), .val (.int r19), .val (.int r27), .val (.int r35), .val (.int r44), .val (.ref a), .val (.ref b), .val (.int (1 : Int32)), .val (.int r182), .val (.int (1 : Int32))] rfl 209 rfl ?_
      refine Ok.iload cx at_209 rfl 211 rfl ?_
      refine Ok.iconst cx at_211 212 rfl (1 : Int32) rfl ?_
      refine Ok.icmp_lt cx at_212 251 215 (by decide) rfl (fun c212 => by exfalso; omega) (fun c212 => ?_)
      refine Ok.iload cx at_215 rfl 217 rfl ?_
      refine Ok.if_eq cx at_217 248 220 (by decide) rfl (fun c217 => by exfalso; omega) (fun c217 => ?_)
      refine Ok.aload cx at_220 rfl 222 rfl ?_
      refine Ok.iconst cx at_222 223 rfl (0 : Int32) rfl ?_
      refine Ok.iaload cx at_223 V51 (0) rfl (v := (.int r27)) rfl 224 rfl ?_
      refine Ok.iconst cx at_224 225 rfl (0 : Int32) rfl ?_
      refine Ok.iload cx at_225 rfl 227 rfl ?_
      refine Ok.iload cx at_227 rfl 229 rfl ?_
      refine Ok.callStatic cx [(.int (0 : Int32)), (.int r27), (.int (1 : Int32))] [(.int r27)] rfl (own_w hw 16 rfl) (own_w hw 17 rfl) (own_w hw 2 rfl) (own_w hw 18 rfl) at_229 (by decide) pd_4 rfl rfl  (rm_5 W.l Z a0 hw (0 : Int32) r27 (1 : Int32) h182_ n0 Z0 (by have := rng32 r6; omega)) (by decide) 1 rfl (by decide) (by decide) (by decide) 232 rfl fun v229 h229_ q229 => ?_
      obtain ⟨rfl, r229, rfl, x229⟩ := q229
      show Ok _ _ _ _ _ _ _ _ _ [(.int r229), (.int r27)]
      refine Ok.icmp_ne cx at_232 248 235 (by decide) rfl (fun c232 => by exfalso; omega) (fun c232 => ?_)
      refine Ok.aload cx at_235 rfl 237 rfl ?_
      refine Ok.iconst cx at_237 238 rfl (0 : Int32) rfl ?_
      refine Ok.iaload cx at_238 V57 (0) rfl (v := (.int r6)) rfl 239 rfl ?_
      refine Ok.iload cx at_239 rfl 241 rfl ?_
      refine Ok.icmp_ne cx at_241 248 244 (by decide) rfl (fun c241 => by exfalso; omega) (fun c241 => ?_)
      refine Ok.iconst cx at_244 245 rfl (1 : Int32) rfl ?_
      refine Ok.goto cx at_245 249 (by decide) ?_
      refine Ok.istore cx at_249 rfl (One.val rfl) [.val (.int p0), .val (.long p1), .second, .val (.long p2), .second, .val (.long p3), .second, .val (.int t2), .val (.int r6), .val (.int r12), .val (.int r19), .val (.int r27), .val (.int r35), .val (.int r44), .val (.ref a), .val (.ref b), .val (.int (1 : Int32)), .val (.int r182), .val (.int (1 : Int32))] rfl 251 rfl ?_
      refine Ok.iload cx at_251 rfl 253 rfl ?_
      refine Ok.iconst cx at_253 254 rfl (2 : Int32) rfl ?_
      refine Ok.icmp_lt cx at_254 293 257 (by decide) rfl (fun c254 => by exfalso; omega) (fun c254 => ?_)
      refine Ok.iload cx at_257 rfl 259 rfl ?_
      refine Ok.if_eq cx at_259 290 262 (by decide) rfl (fun c259 => by exfalso; omega) (fun c259 => ?_)
      refine Ok.aload cx at_262 rfl 264 rfl ?_
      refine Ok.iconst cx at_264 265 rfl (1 : Int32) rfl ?_
      refine Ok.iaload cx at_265 V51 (1) rfl (v := (.int y)) rfl 266 rfl ?_
      refine Ok.iconst cx at_266 267 rfl (1 : Int32) rfl ?_
      refine Ok.iload cx at_267 rfl 269 rfl ?_
      refine Ok.iload cx at_269 rfl 271 rfl ?_
      refine Ok.callStatic cx [(.int (1 : Int32)), (.int r35), (.int (1 : Int32))] [(.int y)] rfl (own_w hw 16 rfl) (own_w hw 17 rfl) (own_w hw 2 rfl) (own_w hw 18 rfl) at_271 (by decide) pd_4 rfl rfl  (rm_5 W.l Z a0 hw (1 : Int32) r35 (1 : Int32) h182_ n0 Z0 (by have := rng32 r12; omega)) (by decide) 1 rfl (by decide) (by decide) (by decide) 274 rfl fun v271 h271_ q271 => ?_
      obtain ⟨rfl, r271, rfl, x271⟩ := q271
      show Ok _ _ _ _ _ _ _ _ _ [(.int r271), (.int y)]
      refine Ok.icmp_ne cx at_274 290 277 (by decide) rfl (fun c274 => by exfalso; omega) (fun c274 => ?_)
      refine Ok.aload cx at_277 rfl 279 rfl ?_
      refine Ok.iconst cx at_279 280 rfl (1 : Int32) rfl ?_
      refine Ok.iaload cx at_280 V57 (1) rfl (v := (.int r12)) rfl 281 rfl ?_
      refine Ok.iload cx at_281 rfl 283 rfl ?_
      refine Ok.icmp_ne cx at_283 290 286 (by decide) rfl (fun c283 => by exfalso; omega) (fun c283 => ?_)
      refine Ok.iconst cx at_286 287 rfl (1 : Int32) rfl ?_
      refine Ok.goto cx at_287 291 (by decide) ?_
      refine Ok.istore cx at_291 rfl (One.val rfl) [.val (.int p0), .val (.long p1), .second, .val (.long p2), .second, .val (.long p3), .second, .val (.int t2), .val (.int r6), .val (.int r12), .val (.int r19), .val (.int r27), .val (.int r35), .val (.int r44), .val (.ref a), .val (.ref b), .val (.int (1 : Int32)), .val (.int r182), .val (.int (1 : Int32))] rfl 293 rfl ?_
      refine Ok.iload cx at_293 rfl 295 rfl ?_
      refine Ok.iconst cx at_295 296 rfl (3 : Int32) rfl ?_
      refine Ok.icmp_lt cx at_296 335 299 (by decide) rfl (fun c296 => ?_) (fun c296 => by exfalso; omega)
      refine Ok.iload cx at_335 rfl 337 rfl ?_
      exact Ok.zreturn cx at_337 (by decide) (by decide) rfl
  · skip
    clear m2
    refine Ok.istore cx at_3 rfl One.u [.val (.int p0), .val (.long p1), .second, .val (.long p2), .second, .val (.long p3), .second, .val (.int t2), .unset, .unset, .unset, .unset, .unset, .unset, .unset, .unset, .unset, .unset, .unset] rfl 5 rfl ?_
    refine Ok.lloadN cx at_5 rfl 6 rfl ?_
    refine Ok.callStatic cx [(.long p1)] [] rfl (own_w hw 0 rfl) (own_w hw 1 rfl) (own_w hw 2 rfl) (own_w hw 3 rfl) at_6 (by decide) pd_1 rfl rfl  (rm_1 W.l Z a0 hw p1 h n0 Z0) (by decide) 0 rfl (by decide) (by decide) (by decide) 9 rfl fun v6 h6_ q6 => ?_
    obtain ⟨rfl, r6, rfl, x6⟩ := q6
    show Ok _ _ _ _ _ _ _ _ _ [(.int r6)]
    refine Ok.istore cx at_9 rfl One.u [.val (.int p0), .val (.long p1), .second, .val (.long p2), .second, .val (.long p3), .second, .val (.int t2), .val (.int r6), .unset, .unset, .unset, .unset, .unset, .unset, .unset, .unset, .unset, .unset] rfl 11 rfl ?_
    refine Ok.lloadN cx at_11 rfl 12 rfl ?_
    refine Ok.callStatic cx [(.long p2)] [] rfl (own_w hw 0 rfl) (own_w hw 1 rfl) (own_w hw 2 rfl) (own_w hw 3 rfl) at_12 (by decide) pd_1 rfl rfl  (rm_1 W.l Z a0 hw p2 h n0 Z0) (by decide) 0 rfl (by decide) (by decide) (by decide) 15 rfl fun v12 h12_ q12 => ?_
    obtain ⟨rfl, r12, rfl, x12⟩ := q12
    show Ok _ _ _ _ _ _ _ _ _ [(.int r12)]
    refine Ok.istore cx at_15 rfl One.u [.val (.int p0), .val (.long p1), .second, .val (.long p2), .second, .val (.long p3), .second, .val (.int t2), .val (.int r6), .val (.int r12), .unset, .unset, .unset, .unset, .unset, .unset, .unset, .unset, .unset] rfl 17 rfl ?_
    refine Ok.lload cx at_17 rfl 19 rfl ?_
    refine Ok.callStatic cx [(.long p3)] [] rfl (own_w hw 0 rfl) (own_w hw 1 rfl) (own_w hw 2 rfl) (own_w hw 3 rfl) at_19 (by decide) pd_1 rfl rfl  (rm_1 W.l Z a0 hw p3 h n0 Z0) (by decide) 0 rfl (by decide) (by decide) (by decide) 22 rfl fun v19 h19_ q19 => ?_
    obtain ⟨rfl, r19, rfl, x19⟩ := q19
    show Ok _ _ _ _ _ _ _ _ _ [(.int r19)]
    refine Ok.istore cx at_22 rfl One.u [.val (.int p0), .val (.long p1), .second, .val (.long p2), .second, .val (.long p3), .second, .val (.int t2), .val (.int r6), .val (.int r12), .val (.int r19), .unset, .unset, .unset, .unset, .unset, .unset, .unset, .unset] rfl 24 rfl ?_
    refine Ok.lloadN cx at_24 rfl 25 rfl ?_
    refine Ok.iload cx at_25 rfl 27 rfl ?_
    refine Ok.callStatic cx [(.long p1), (.int r6)] [] rfl (own_w hw 8 rfl) (own_w hw 9 rfl) (own_w hw 2 rfl) (own_w hw 10 rfl) at_27 (by decide) pd_2 rfl rfl  (rm_3 W.l Z a0 hw p1 r6 h n0 Z0 (by omega)) (by decide) 0 rfl (by decide) (by decide) (by decide) 30 rfl fun v27 h27_ q27 => ?_
    obtain ⟨rfl, r27, rfl, x27⟩ := q27
    show Ok _ _ _ _ _ _ _ _ _ [(.int r27)]
    refine Ok.istore cx at_30 rfl One.u [.val (.int p0), .val (.long p1), .second, .val (.long p2), .second, .val (.long p3), .second, .val (.int t2), .val (.int r6), .val (.int r12), .val (.int r19), .val (.int r27), .unset, .unset, .unset, .unset, .unset, .unset, .unset] rfl 32 rfl ?_
    refine Ok.lloadN cx at_32 rfl 33 rfl ?_
    refine Ok.iload cx at_33 rfl 35 rfl ?_
    refine Ok.callStatic cx [(.long p2), (.int r12)] [] rfl (own_w hw 8 rfl) (own_w hw 9 rfl) (own_w hw 2 rfl) (own_w hw 10 rfl) at_35 (by decide) pd_2 rfl rfl  (rm_3 W.l Z a0 hw p2 r12 h n0 Z0 (by omega)) (by decide) 0 rfl (by decide) (by decide) (by decide) 38 rfl fun v35 h35_ q35 => ?_
    obtain ⟨rfl, r35, rfl, x35⟩ := q35
    show Ok _ _ _ _ _ _ _ _ _ [(.int r35)]
    refine Ok.istore cx at_38 rfl One.u [.val (.int p0), .val (.long p1), .second, .val (.long p2), .second, .val (.long p3), .second, .val (.int t2), .val (.int r6), .val (.int r12), .val (.int r19), .val (.int r27), .val (.int r35), .unset, .unset, .unset, .unset, .unset, .unset] rfl 40 rfl ?_
    refine Ok.lload cx at_40 rfl 42 rfl ?_
    refine Ok.iload cx at_42 rfl 44 rfl ?_
    refine Ok.callStatic cx [(.long p3), (.int r19)] [] rfl (own_w hw 8 rfl) (own_w hw 9 rfl) (own_w hw 2 rfl) (own_w hw 10 rfl) at_44 (by decide) pd_2 rfl rfl  (rm_3 W.l Z a0 hw p3 r19 h n0 Z0 (by omega)) (by decide) 0 rfl (by decide) (by decide) (by decide) 47 rfl fun v44 h44_ q44 => ?_
    obtain ⟨rfl, r44, rfl, x44⟩ := q44
    show Ok _ _ _ _ _ _ _ _ _ [(.int r44)]
    refine Ok.istore cx at_47 rfl One.u [.val (.int p0), .val (.long p1), .second, .val (.long p2), .second, .val (.long p3), .second, .val (.int t2), .val (.int r6), .val (.int r12), .val (.int r19), .val (.int r27), .val (.int r35), .val (.int r44), .unset, .unset, .unset, .unset, .unset] rfl 49 rfl ?_
    refine Ok.iload cx at_49 rfl 51 rfl ?_
    refine Ok.newarray cx (own_w hw 11 rfl) at_51 rfl (3) hm (by omega) 3 (by omega) (by omega) (by decide) (by decide) 53 rfl fun h51_ a g51 E51 V51 => ?_
    have za : n0 ≤ a := by rw [g51]; exact Z0
    have Z0 := Nat.le_trans Z0 E51.1
    refine Ok.astore cx at_53 rfl One.u [.val (.int p0), .val (.long p1), .second, .val (.long p2), .second, .val (.long p3), .second, .val (.int t2), .val (.int r6), .val (.int r12), .val (.int r19), .val (.int r27), .val (.int r35), .val (.int r44), .val (.ref a), .unset, .unset, .unset, .unset] rfl 55 rfl ?_
    refine Ok.iload cx at_55 rfl 57 rfl ?_
    refine Ok.newarray cx (own_w hw 11 rfl) at_57 rfl (3) hm (by omega) 3 (by omega) (by omega) (by decide) (by decide) 59 rfl fun h57_ b g57 E57 V57 => ?_
    have zb : n0 ≤ b := by rw [g57]; exact Z0
    have ne_a_b : a ≠ b := by rw [g57]; exact Nat.ne_of_lt V51.lt
    have Z0 := Nat.le_trans Z0 E57.1
    have V51 := V51.ext E57
    have V51 : AI Z h57_ a .int [(.int 0), (.int 0), (.int 0)] := V51
    have V57 : AI Z h57_ b .int [(.int 0), (.int 0), (.int 0)] := V57
    have nab : a ≠ b := ne_a_b
    refine Ok.astore cx at_59 rfl One.u [.val (.int p0), .val (.long p1), .second, .val (.long p2), .second, .val (.long p3), .second, .val (.int t2), .val (.int r6), .val (.int r12), .val (.int r19), .val (.int r27), .val (.int r35), .val (.int r44), .val (.ref a), .val (.ref b), .unset, .unset, .unset] rfl 61 rfl ?_
    refine Ok.iload cx at_61 rfl 63 rfl ?_
    refine Ok.iconst cx at_63 64 rfl (1 : Int32) rfl ?_
    refine Ok.icmp_lt cx at_64 79 67 (by decide) rfl (fun c64 => by exfalso; omega) (fun c64 => ?_)
    refine Ok.aload cx at_67 rfl 69 rfl ?_
    refine Ok.iconst cx at_69 70 rfl (0 : Int32) rfl ?_
    refine Ok.iload cx at_70 rfl 72 rfl ?_
    refine Ok.iastore cx at_72 V51 (0) rfl (by simp) (by first | assumption | omega) 73 rfl fun h72_ W72 G72 => ?_
    have Z0 := Nat.le_trans Z0 (Nat.le_of_eq W72.size.symm)
    have V57 := V57.other W72 (by first | assumption | (apply Ne.symm; assumption))
    have V51 := G72
    have V51 : AI Z h72_ a .int [(.int r27), (.int 0), (.int 0)] := V51
    refine Ok.aload cx at_73 rfl 75 rfl ?_
    refine Ok.iconst cx at_75 76 rfl (0 : Int32) rfl ?_
    refine Ok.iload cx at_76 rfl 78 rfl ?_
    refine Ok.iastore cx at_78 V57 (0) rfl (by simp) (by first | assumption | omega) 79 rfl fun h78_ W78 G78 => ?_
    have Z0 := Nat.le_trans Z0 (Nat.le_of_eq W78.size.symm)
    have V51 := V51.other W78 (by first | assumption | (apply Ne.symm; assumption))
    have V57 := G78
    have V57 : AI Z h78_ b .int [(.int r6), (.int 0), (.int 0)] := V57
    refine Ok.iload cx at_79 rfl 81 rfl ?_
    refine Ok.iconst cx at_81 82 rfl (2 : Int32) rfl ?_
    refine Ok.icmp_lt cx at_82 97 85 (by decide) rfl (fun c82 => by exfalso; omega) (fun c82 => ?_)
    refine Ok.aload cx at_85 rfl 87 rfl ?_
    refine Ok.iconst cx at_87 88 rfl (1 : Int32) rfl ?_
    refine Ok.iload cx at_88 rfl 90 rfl ?_
    refine Ok.iastore cx at_90 V51 (1) rfl (by simp) (by first | assumption | omega) 91 rfl fun h90_ W90 G90 => ?_
    have Z0 := Nat.le_trans Z0 (Nat.le_of_eq W90.size.symm)
    have V57 := V57.other W90 (by first | assumption | (apply Ne.symm; assumption))
    have V51 := G90
    have V51 : AI Z h90_ a .int [(.int r27), (.int r35), (.int 0)] := V51
    refine Ok.aload cx at_91 rfl 93 rfl ?_
    refine Ok.iconst cx at_93 94 rfl (1 : Int32) rfl ?_
    refine Ok.iload cx at_94 rfl 96 rfl ?_
    refine Ok.iastore cx at_96 V57 (1) rfl (by simp) (by first | assumption | omega) 97 rfl fun h96_ W96 G96 => ?_
    have Z0 := Nat.le_trans Z0 (Nat.le_of_eq W96.size.symm)
    have V51 := V51.other W96 (by first | assumption | (apply Ne.symm; assumption))
    have V57 := G96
    have V57 : AI Z h96_ b .int [(.int r6), (.int r12), (.int 0)] := V57
    refine Ok.iload cx at_97 rfl 99 rfl ?_
    refine Ok.iconst cx at_99 100 rfl (3 : Int32) rfl ?_
    refine Ok.icmp_lt cx at_100 115 103 (by decide) rfl (fun c100 => by exfalso; omega) (fun c100 => ?_)
    refine Ok.aload cx at_103 rfl 105 rfl ?_
    refine Ok.iconst cx at_105 106 rfl (2 : Int32) rfl ?_
    refine Ok.iload cx at_106 rfl 108 rfl ?_
    refine Ok.iastore cx at_108 V51 (2) rfl (by simp) (by first | assumption | omega) 109 rfl fun h108_ W108 G108 => ?_
    have Z0 := Nat.le_trans Z0 (Nat.le_of_eq W108.size.symm)
    have V57 := V57.other W108 (by first | assumption | (apply Ne.symm; assumption))
    have V51 := G108
    have V51 : AI Z h108_ a .int [(.int r27), (.int r35), (.int r44)] := V51
    refine Ok.aload cx at_109 rfl 111 rfl ?_
    refine Ok.iconst cx at_111 112 rfl (2 : Int32) rfl ?_
    refine Ok.iload cx at_112 rfl 114 rfl ?_
    refine Ok.iastore cx at_114 V57 (2) rfl (by simp) (by first | assumption | omega) 115 rfl fun h114_ W114 G114 => ?_
    have Z0 := Nat.le_trans Z0 (Nat.le_of_eq W114.size.symm)
    have V51 := V51.other W114 (by first | assumption | (apply Ne.symm; assumption))
    have V57 := G114
    have V57 : AI Z h114_ b .int [(.int r6), (.int r12), (.int r19)] := V57
    refine Ok.iconst cx at_115 116 rfl (-1 : Int32) rfl ?_
    refine Ok.istore cx at_116 rfl One.u [.val (.int p0), .val (.long p1), .second, .val (.long p2), .second, .val (.long p3), .second, .val (.int t2), .val (.int r6), .val (.int r12), .val (.int r19), .val (.int r27), .val (.int r35), .val (.int r44), .val (.ref a), .val (.ref b), .val (.int (-1 : Int32)), .unset, .unset] rfl 118 rfl ?_
    refine Ok.iload cx at_118 rfl 120 rfl ?_
    refine Ok.iconst cx at_120 121 rfl (3 : Int32) rfl ?_
    refine Ok.icmp_lt cx at_121 139 124 (by decide) rfl (fun c121 => by exfalso; omega) (fun c121 => ?_)
    refine Ok.iload cx at_124 rfl 126 rfl ?_
    refine Ok.iload cx at_126 rfl 128 rfl ?_
    refine Ok.iconst cx at_128 129 rfl (1 : Int32) rfl ?_
    refine Ok.isub cx at_129 130 rfl fun t129 e129 => ?_
    have s129 := own_sub e129 (by omega) (by have := rng32 r19; omega)
    refine Ok.icmp_eq cx at_130 139 133 (by decide) rfl (fun c130 => ?_) (fun c130 => ?_)
    · skip
      refine Ok.iload cx at_139 rfl 141 rfl ?_
      refine Ok.iconst cx at_141 142 rfl (2 : Int32) rfl ?_
      refine Ok.icmp_lt cx at_142 160 145 (by decide) rfl (fun c142 => by exfalso; omega) (fun c142 => ?_)
      refine Ok.iload cx at_145 rfl 147 rfl ?_
      refine Ok.iload cx at_147 rfl 149 rfl ?_
      refine Ok.iconst cx at_149 150 rfl (1 : Int32) rfl ?_
      refine Ok.isub cx at_150 151 rfl fun t150 e150 => ?_
      have s150 := own_sub e150 (by omega) (by have := rng32 r12; omega)
      refine Ok.icmp_eq cx at_151 160 154 (by decide) rfl (fun c151 => ?_) (fun c151 => ?_)
      · skip
        refine Ok.iload cx at_160 rfl 162 rfl ?_
        refine Ok.iconst cx at_162 163 rfl (1 : Int32) rfl ?_
        refine Ok.icmp_lt cx at_163 178 166 (by decide) rfl (fun c163 => by exfalso; omega) (fun c163 => ?_)
        refine Ok.iload cx at_166 rfl 168 rfl ?_
        refine Ok.iload cx at_168 rfl 170 rfl ?_
        refine Ok.iconst cx at_170 171 rfl (1 : Int32) rfl ?_
        refine Ok.isub cx at_171 172 rfl fun t171 e171 => ?_
        have s171 := own_sub e171 (by omega) (by have := rng32 r6; omega)
        refine Ok.icmp_eq cx at_172 178 175 (by decide) rfl (fun c172 => ?_) (fun c172 => ?_)
        · skip
          refine Ok.aload cx at_178 rfl 180 rfl ?_
          refine Ok.aload cx at_180 rfl 182 rfl ?_
          refine Ok.callStatic cx [(.ref a), (.ref b)] [] rfl (own_w hw 12 rfl) (own_w hw 13 rfl) (own_w hw 14 rfl) (own_w hw 15 rfl) at_182 (by decide) pd_3 rfl rfl  (rm_4_3 W.l Z a0 hw a b r27 r35 r44 r6 r12 r19 h114_ n0 Z0 V51 V57 nab za (by have := rng32 r6; omega) (by have := rng32 r12; omega) (by have := rng32 r19; omega)) (by decide) 0 rfl (by decide) (by decide) (by decide) 185 rfl fun v182 h182_ q182 => ?_
          obtain ⟨Z0, V57, r182, rfl, x182⟩ := q182
          show Ok _ _ _ _ _ _ _ _ _ [(.int r182)]
          obtain ⟨x182, y, V51⟩ : r182.toInt = 0 ∧ ∃ y : Int32, AI Z h182_ a .int [(.int 0), (.int 0), (.int 0)] := by
            rcases x182 with ⟨z1, z2, z3⟩ | ⟨z1, z2, z3⟩ | ⟨z1, z2, z3⟩ | ⟨z1, z2, z3⟩
            · exfalso; omega
            · exfalso; omega
            · exfalso; omega
            · exact ⟨z1, z3⟩
          refine Ok.istore cx at_185 rfl One.u [.val (.int p0), .val (.long p1), .second, .val (.long p2), .second, .val (.long p3), .second, .val (.int t2), .val (.int r6), .val (.int r12), .val (.int r19), .val (.int r27), .val (.int r35), .val (.int r44), .val (.ref a), .val (.ref b), .val (.int (-1 : Int32)), .val (.int r182), .unset] rfl 187 rfl ?_
          refine Ok.iload cx at_187 rfl 189 rfl ?_
          refine Ok.iload cx at_189 rfl 191 rfl ?_
          refine Ok.if_lt cx at_191 198 194 (by decide) rfl (fun c191 => ?_) (fun c191 => by exfalso; omega)
          refine Ok.iconst cx at_198 199 rfl (0 : Int32) rfl ?_
          refine Ok.icmp_ne cx at_199 206 202 (by decide) rfl (fun c199 => by exfalso; omega) (fun c199 => ?_)
          refine Ok.iconst cx at_202 203 rfl (1 : Int32) rfl ?_
          refine Ok.goto cx at_203 207 (by decide) ?_
          refine Ok.istore cx at_207 rfl One.u [.val (.int p0), .val (.long p1), .second, .val (.long p2), .second, .val (.long p3), .second, .val (.int t2), .val (.int r6), .val (.int r12), .val (.int r19), .val (.int r27), .val (.int r35), .val (.int r44), .val (.ref a), .val (.ref b), .val (.int (-1 : Int32)), .val (.int r182), .val (.int (1 : Int32))] rfl 209 rfl ?_
          refine Ok.iload cx at_209 rfl 211 rfl ?_
          refine Ok.iconst cx at_211 212 rfl (1 : Int32) rfl ?_
          refine Ok.icmp_lt cx at_212 251 215 (by decide) rfl (fun c212 => by exfalso; omega) (fun c212 => ?_)
          refine Ok.iload cx at_215 rfl 217 rfl ?_
          refine Ok.if_eq cx at_217 248 220 (by decide) rfl (fun c217 => by exfalso; omega) (fun c217 => ?_)
          refine Ok.aload cx at_220 rfl 222 rfl ?_
          refine Ok.iconst cx at_222 223 rfl (0 : Int32) rfl ?_
          refine Ok.iaload cx at_223 V51 (0) rfl (v := (.int (0 : Int32))) rfl 224 rfl ?_
          refine Ok.iconst cx at_224 225 rfl (0 : Int32) rfl ?_
          refine Ok.iload cx at_225 rfl 227 rfl ?_
          refine Ok.iload cx at_227 rfl 229 rfl ?_
          refine Ok.callStatic cx [(.int (0 : Int32)), (.int r27), (.int (-1 : Int32))] [(.int (0 : Int32))] rfl (own_w hw 16 rfl) (own_w hw 17 rfl) (own_w hw 2 rfl) (own_w hw 18 rfl) at_229 (by decide) pd_4 rfl rfl  (rm_5 W.l Z a0 hw (0 : Int32) r27 (-1 : Int32) h182_ n0 Z0 (by have := rng32 r6; omega)) (by decide) 1 rfl (by decide) (by decide) (by decide) 232 rfl fun v229 h229_ q229 => ?_
          obtain ⟨rfl, r229, rfl, x229⟩ := q229
          show Ok _ _ _ _ _ _ _ _ _ [(.int r229), (.int (0 : Int32))]
          refine Ok.icmp_ne cx at_232 248 235 (by decide) rfl (fun c232 => by exfalso; omega) (fun c232 => ?_)
          refine Ok.aload cx at_235 rfl 237 rfl ?_
          refine Ok.iconst cx at_237 238 rfl (0 : Int32) rfl ?_
          refine Ok.iaload cx at_238 V57 (0) rfl (v := (.int r6)) rfl 239 rfl ?_
          refine Ok.iload cx at_239 rfl 241 rfl ?_
          refine Ok.icmp_ne cx at_241 248 244 (by decide) rfl (fun c241 => by exfalso; omega) (fun c241 => ?_)
          refine Ok.iconst cx at_244 245 rfl (1 : Int32) rfl ?_
          refine Ok.goto cx at_245 249 (by decide) ?_
          refine Ok.istore cx at_249 rfl (One.val rfl) [.val (.int p0), .val (.long p1), .second, .val (.long p2), .second, .val (.long p3), .second, .val (.int t2), .val (.int r6), .val (.int r12), .val (.int r19), .val (.int r27), .val (.int r35), .val (.int r44), .val (.ref a), .val (.ref b), .val (.int (-1 : Int32)), .val (.int r182), .val (.int (1 : Int32))] rfl 251 rfl ?_
          refine Ok.iload cx at_251 rfl 253 rfl ?_
          refine Ok.iconst cx at_253 254 rfl (2 : Int32) rfl ?_
          refine Ok.icmp_lt cx at_254 293 257 (by decide) rfl (fun c254 => by exfalso; omega) (fun c254 => ?_)
          refine Ok.iload cx at_257 rfl 259 rfl ?_
          refine Ok.if_eq cx at_259 290 262 (by decide) rfl (fun c259 => by exfalso; omega) (fun c259 => ?_)
          refine Ok.aload cx at_262 rfl 264 rfl ?_
          refine Ok.iconst cx at_264 265 rfl (1 : Int32) rfl ?_
          refine Ok.iaload cx at_265 V51 (1) rfl (v := (.int (0 : Int32))) rfl 266 rfl ?_
          refine Ok.iconst cx at_266 267 rfl (1 : Int32) rfl ?_
          refine Ok.iload cx at_267 rfl 269 rfl ?_
          refine Ok.iload cx at_269 rfl 271 rfl ?_
          refine Ok.callStatic cx [(.int (1 : Int32)), (.int r35), (.int (-1 : Int32))] [(.int (0 : Int32))] rfl (own_w hw 16 rfl) (own_w hw 17 rfl) (own_w hw 2 rfl) (own_w hw 18 rfl) at_271 (by decide) pd_4 rfl rfl  (rm_5 W.l Z a0 hw (1 : Int32) r35 (-1 : Int32) h182_ n0 Z0 (by have := rng32 r12; omega)) (by decide) 1 rfl (by decide) (by decide) (by decide) 274 rfl fun v271 h271_ q271 => ?_
          obtain ⟨rfl, r271, rfl, x271⟩ := q271
          show Ok _ _ _ _ _ _ _ _ _ [(.int r271), (.int (0 : Int32))]
          refine Ok.icmp_ne cx at_274 290 277 (by decide) rfl (fun c274 => by exfalso; omega) (fun c274 => ?_)
          refine Ok.aload cx at_277 rfl 279 rfl ?_
          refine Ok.iconst cx at_279 280 rfl (1 : Int32) rfl ?_
          refine Ok.iaload cx at_280 V57 (1) rfl (v := (.int r12)) rfl 281 rfl ?_
          refine Ok.iload cx at_281 rfl 283 rfl ?_
          refine Ok.icmp_ne cx at_283 290 286 (by decide) rfl (fun c283 => by exfalso; omega) (fun c283 => ?_)
          refine Ok.iconst cx at_286 287 rfl (1 : Int32) rfl ?_
          refine Ok.goto cx at_287 291 (by decide) ?_
          refine Ok.istore cx at_291 rfl (One.val rfl) [.val (.int p0), .val (.long p1), .second, .val (.long p2), .second, .val (.long p3), .second, .val (.int t2), .val (.int r6), .val (.int r12), .val (.int r19), .val (.int r27), .val (.int r35), .val (.int r44), .val (.ref a), .val (.ref b), .val (.int (-1 : Int32)), .val (.int r182), .val (.int (1 : Int32))] rfl 293 rfl ?_
          refine Ok.iload cx at_293 rfl 295 rfl ?_
          refine Ok.iconst cx at_295 296 rfl (3 : Int32) rfl ?_
          refine Ok.icmp_lt cx at_296 335 299 (by decide) rfl (fun c296 => by exfalso; omega) (fun c296 => ?_)
          refine Ok.iload cx at_299 rfl 301 rfl ?_
          refine Ok.if_eq cx at_301 332 304 (by decide) rfl (fun c301 => by exfalso; omega) (fun c301 => ?_)
          refine Ok.aload cx at_304 rfl 306 rfl ?_
          refine Ok.iconst cx at_306 307 rfl (2 : Int32) rfl ?_
          refine Ok.iaload cx at_307 V51 (2) rfl (v := (.int (0 : Int32))) rfl 308 rfl ?_
          refine Ok.iconst cx at_308 309 rfl (2 : Int32) rfl ?_
          refine Ok.iload cx at_309 rfl 311 rfl ?_
          refine Ok.iload cx at_311 rfl 313 rfl ?_
          refine Ok.callStatic cx [(.int (2 : Int32)), (.int r44), (.int (-1 : Int32))] [(.int (0 : Int32))] rfl (own_w hw 16 rfl) (own_w hw 17 rfl) (own_w hw 2 rfl) (own_w hw 18 rfl) at_313 (by decide) pd_4 rfl rfl  (rm_5 W.l Z a0 hw (2 : Int32) r44 (-1 : Int32) h182_ n0 Z0 (by have := rng32 r19; omega)) (by decide) 1 rfl (by decide) (by decide) (by decide) 316 rfl fun v313 h313_ q313 => ?_
          obtain ⟨rfl, r313, rfl, x313⟩ := q313
          show Ok _ _ _ _ _ _ _ _ _ [(.int r313), (.int (0 : Int32))]
          refine Ok.icmp_ne cx at_316 332 319 (by decide) rfl (fun c316 => by exfalso; omega) (fun c316 => ?_)
          refine Ok.aload cx at_319 rfl 321 rfl ?_
          refine Ok.iconst cx at_321 322 rfl (2 : Int32) rfl ?_
          refine Ok.iaload cx at_322 V57 (2) rfl (v := (.int r19)) rfl 323 rfl ?_
          refine Ok.iload cx at_323 rfl 325 rfl ?_
          refine Ok.icmp_ne cx at_325 332 328 (by decide) rfl (fun c325 => by exfalso; omega) (fun c325 => ?_)
          refine Ok.iconst cx at_328 329 rfl (1 : Int32) rfl ?_
          refine Ok.goto cx at_329 333 (by decide) ?_
          refine Ok.istore cx at_333 rfl (One.val rfl) [.val (.int p0), .val (.long p1), .second, .val (.long p2), .second, .val (.long p3), .second, .val (.int t2), .val (.int r6), .val (.int r12), .val (.int r19), .val (.int r27), .val (.int r35), .val (.int r44), .val (.ref a), .val (.ref b), .val (.int (-1 : Int32)), .val (.int r182), .val (.int (1 : Int32))] rfl 335 rfl ?_
          refine Ok.iload cx at_335 rfl 337 rfl ?_
          exact Ok.zreturn cx at_337 (by decide) (by decide) rfl
        · skip
          refine Ok.iconst cx at_175 176 rfl (0 : Int32) rfl ?_
          refine Ok.istore cx at_176 rfl (One.val rfl) [.val (.int p0), .val (.long p1), .second, .val (.long p2), .second, .val (.long p3), .second, .val (.int t2), .val (.int r6), .val (.int r12), .val (.int r19), .val (.int r27), .val (.int r35), .val (.int r44), .val (.ref a), .val (.ref b), .val (.int (0 : Int32)), .unset, .unset] rfl 178 rfl ?_
          refine Ok.aload cx at_178 rfl 180 rfl ?_
          refine Ok.aload cx at_180 rfl 182 rfl ?_
          refine Ok.callStatic cx [(.ref a), (.ref b)] [] rfl (own_w hw 12 rfl) (own_w hw 13 rfl) (own_w hw 14 rfl) (own_w hw 15 rfl) at_182 (by decide) pd_3 rfl rfl  (rm_4_3 W.l Z a0 hw a b r27 r35 r44 r6 r12 r19 h114_ n0 Z0 V51 V57 nab za (by have := rng32 r6; omega) (by have := rng32 r12; omega) (by have := rng32 r19; omega)) (by decide) 0 rfl (by decide) (by decide) (by decide) 185 rfl fun v182 h182_ q182 => ?_
          obtain ⟨Z0, V57, r182, rfl, x182⟩ := q182
          show Ok _ _ _ _ _ _ _ _ _ [(.int r182)]
          obtain ⟨x182, y, xy, V51⟩ : r182.toInt = 1 ∧ ∃ y : Int32, y.toInt = r27.toInt + 1 ∧ AI Z h182_ a .int [(.int y), (.int 0), (.int 0)] := by
            rcases x182 with ⟨z1, z2, z3⟩ | ⟨z1, z2, z3⟩ | ⟨z1, z2, z3⟩ | ⟨z1, z2, z3⟩
            · exfalso; omega
            · exfalso; omega
            · exact ⟨z1, z3⟩
            · exfalso; omega
          refine Ok.istore cx at_185 rfl One.u [.val (.int p0), .val (.long p1), .second, .val (.long p2), .second, .val (.long p3), .second, .val (.int t2), .val (.int r6), .val (.int r12), .val (.int r19), .val (.int r27), .val (.int r35), .val (.int r44), .val (.ref a), .val (.ref b), .val (.int (0 : Int32)), .val (.int r182), .unset] rfl 187 rfl ?_
          refine Ok.iload cx at_187 rfl 189 rfl ?_
          refine Ok.iload cx at_189 rfl 191 rfl ?_
          refine Ok.if_lt cx at_191 198 194 (by decide) rfl (fun c191 => by exfalso; omega) (fun c191 => ?_)
          refine Ok.iconst cx at_194 195 rfl (1 : Int32) rfl ?_
          refine Ok.goto cx at_195 199 (by decide) ?_
          refine Ok.icmp_ne cx at_199 206 202 (by decide) rfl (fun c199 => by exfalso; omega) (fun c199 => ?_)
          refine Ok.iconst cx at_202 203 rfl (1 : Int32) rfl ?_
          refine Ok.goto cx at_203 207 (by decide) ?_
          refine Ok.istore cx at_207 rfl One.u [.val (.int p0), .val (.long p1), .second, .val (.long p2), .second, .val (.long p3), .second, .val (.int t2), .val (.int r6), .val (.int r12), .val (.int r19), .val (.int r27), .val (.int r35), .val (.int r44), .val (.ref a), .val (.ref b), .val (.int (0 : Int32)), .val (.int r182), .val (.int (1 : Int32))] rfl 209 rfl ?_
          refine Ok.iload cx at_209 rfl 211 rfl ?_
          refine Ok.iconst cx at_211 212 rfl (1 : Int32) rfl ?_
          refine Ok.icmp_lt cx at_212 251 215 (by decide) rfl (fun c212 => by exfalso; omega) (fun c212 => ?_)
          refine Ok.iload cx at_215 rfl 217 rfl ?_
          refine Ok.if_eq cx at_217 248 220 (by decide) rfl (fun c217 => by exfalso; omega) (fun c217 => ?_)
          refine Ok.aload cx at_220 rfl 222 rfl ?_
          refine Ok.iconst cx at_222 223 rfl (0 : Int32) rfl ?_
          refine Ok.iaload cx at_223 V51 (0) rfl (v := (.int y)) rfl 224 rfl ?_
          refine Ok.iconst cx at_224 225 rfl (0 : Int32) rfl ?_
          refine Ok.iload cx at_225 rfl 227 rfl ?_
          refine Ok.iload cx at_227 rfl 229 rfl ?_
          refine Ok.callStatic cx [(.int (0 : Int32)), (.int r27), (.int (0 : Int32))] [(.int y)] rfl (own_w hw 16 rfl) (own_w hw 17 rfl) (own_w hw 2 rfl) (own_w hw 18 rfl) at_229 (by decide) pd_4 rfl rfl  (rm_5 W.l Z a0 hw (0 : Int32) r27 (0 : Int32) h182_ n0 Z0 (by have := rng32 r6; omega)) (by decide) 1 rfl (by decide) (by decide) (by decide) 232 rfl fun v229 h229_ q229 => ?_
          obtain ⟨rfl, r229, rfl, x229⟩ := q229
          show Ok _ _ _ _ _ _ _ _ _ [(.int r229), (.int y)]
          refine Ok.icmp_ne cx at_232 248 235 (by decide) rfl (fun c232 => by exfalso; omega) (fun c232 => ?_)
          refine Ok.aload cx at_235 rfl 237 rfl ?_
          refine Ok.iconst cx at_237 238 rfl (0 : Int32) rfl ?_
          refine Ok.iaload cx at_238 V57 (0) rfl (v := (.int r6)) rfl 239 rfl ?_
          refine Ok.iload cx at_239 rfl 241 rfl ?_
          refine Ok.icmp_ne cx at_241 248 244 (by decide) rfl (fun c241 => by exfalso; omega) (fun c241 => ?_)
          refine Ok.iconst cx at_244 245 rfl (1 : Int32) rfl ?_
          refine Ok.goto cx at_245 249 (by decide) ?_
          refine Ok.istore cx at_249 rfl (One.val rfl) [.val (.int p0), .val (.long p1), .second, .val (.long p2), .second, .val (.long p3), .second, .val (.int t2), .val (.int r6), .val (.int r12), .val (.int r19), .val (.int r27), .val (.int r35), .val (.int r44), .val (.ref a), .val (.ref b), .val (.int (0 : Int32)), .val (.int r182), .val (.int (1 : Int32))] rfl 251 rfl ?_
          refine Ok.iload cx at_251 rfl 253 rfl ?_
          refine Ok.iconst cx at_253 254 rfl (2 : Int32) rfl ?_
          refine Ok.icmp_lt cx at_254 293 257 (by decide) rfl (fun c254 => by exfalso; omega) (fun c254 => ?_)
          refine Ok.iload cx at_257 rfl 259 rfl ?_
          refine Ok.if_eq cx at_259 290 262 (by decide) rfl (fun c259 => by exfalso; omega) (fun c259 => ?_)
          refine Ok.aload cx at_262 rfl 264 rfl ?_
          refine Ok.iconst cx at_264 265 rfl (1 : Int32) rfl ?_
          refine Ok.iaload cx at_265 V51 (1) rfl (v := (.int (0 : Int32))) rfl 266 rfl ?_
          refine Ok.iconst cx at_266 267 rfl (1 : Int32) rfl ?_
          refine Ok.iload cx at_267 rfl 269 rfl ?_
          refine Ok.iload cx at_269 rfl 271 rfl ?_
          refine Ok.callStatic cx [(.int (1 : Int32)), (.int r35), (.int (0 : Int32))] [(.int (0 : Int32))] rfl (own_w hw 16 rfl) (own_w hw 17 rfl) (own_w hw 2 rfl) (own_w hw 18 rfl) at_271 (by decide) pd_4 rfl rfl  (rm_5 W.l Z a0 hw (1 : Int32) r35 (0 : Int32) h182_ n0 Z0 (by have := rng32 r12; omega)) (by decide) 1 rfl (by decide) (by decide) (by decide) 274 rfl fun v271 h271_ q271 => ?_
          obtain ⟨rfl, r271, rfl, x271⟩ := q271
          show Ok _ _ _ _ _ _ _ _ _ [(.int r271), (.int (0 : Int32))]
          refine Ok.icmp_ne cx at_274 290 277 (by decide) rfl (fun c274 => by exfalso; omega) (fun c274 => ?_)
          refine Ok.aload cx at_277 rfl 279 rfl ?_
          refine Ok.iconst cx at_279 280 rfl (1 : Int32) rfl ?_
          refine Ok.iaload cx at_280 V57 (1) rfl (v := (.int r12)) rfl 281 rfl ?_
          refine Ok.iload cx at_281 rfl 283 rfl ?_
          refine Ok.icmp_ne cx at_283 290 286 (by decide) rfl (fun c283 => by exfalso; omega) (fun c283 => ?_)
          refine Ok.iconst cx at_286 287 rfl (1 : Int32) rfl ?_
          refine Ok.goto cx at_287 291 (by decide) ?_
          refine Ok.istore cx at_291 rfl (One.val rfl) [.val (.int p0), .val (.long p1), .second, .val (.long p2), .second, .val (.long p3), .second, .val (.int t2), .val (.int r6), .val (.int r12), .val (.int r19), .val (.int r27), .val (.int r35), .val (.int r44), .val (.ref a), .val (.ref b), .val (.int (0 : Int32)), .val (.int r182), .val (.int (1 : Int32))] rfl 293 rfl ?_
          refine Ok.iload cx at_293 rfl 295 rfl ?_
          refine Ok.iconst cx at_295 296 rfl (3 : Int32) rfl ?_
          refine Ok.icmp_lt cx at_296 335 299 (by decide) rfl (fun c296 => by exfalso; omega) (fun c296 => ?_)
          refine Ok.iload cx at_299 rfl 301 rfl ?_
          refine Ok.if_eq cx at_301 332 304 (by decide) rfl (fun c301 => by exfalso; omega) (fun c301 => ?_)
          refine Ok.aload cx at_304 rfl 306 rfl ?_
          refine Ok.iconst cx at_306 307 rfl (2 : Int32) rfl ?_
          refine Ok.iaload cx at_307 V51 (2) rfl (v := (.int (0 : Int32))) rfl 308 rfl ?_
          refine Ok.iconst cx at_308 309 rfl (2 : Int32) rfl ?_
          refine Ok.iload cx at_309 rfl 311 rfl ?_
          refine Ok.iload cx at_311 rfl 313 rfl ?_
          refine Ok.callStatic cx [(.int (2 : Int32)), (.int r44), (.int (0 : Int32))] [(.int (0 : Int32))] rfl (own_w hw 16 rfl) (own_w hw 17 rfl) (own_w hw 2 rfl) (own_w hw 18 rfl) at_313 (by decide) pd_4 rfl rfl  (rm_5 W.l Z a0 hw (2 : Int32) r44 (0 : Int32) h182_ n0 Z0 (by have := rng32 r19; omega)) (by decide) 1 rfl (by decide) (by decide) (by decide) 316 rfl fun v313 h313_ q313 => ?_
          obtain ⟨rfl, r313, rfl, x313⟩ := q313
          show Ok _ _ _ _ _ _ _ _ _ [(.int r313), (.int (0 : Int32))]
          refine Ok.icmp_ne cx at_316 332 319 (by decide) rfl (fun c316 => by exfalso; omega) (fun c316 => ?_)
          refine Ok.aload cx at_319 rfl 321 rfl ?_
          refine Ok.iconst cx at_321 322 rfl (2 : Int32) rfl ?_
          refine Ok.iaload cx at_322 V57 (2) rfl (v := (.int r19)) rfl 323 rfl ?_
          refine Ok.iload cx at_323 rfl 325 rfl ?_
          refine Ok.icmp_ne cx at_325 332 328 (by decide) rfl (fun c325 => by exfalso; omega) (fun c325 => ?_)
          refine Ok.iconst cx at_328 329 rfl (1 : Int32) rfl ?_
          refine Ok.goto cx at_329 333 (by decide) ?_
          refine Ok.istore cx at_333 rfl (One.val rfl) [.val (.int p0), .val (.long p1), .second, .val (.long p2), .second, .val (.long p3), .second, .val (.int t2), .val (.int r6), .val (.int r12), .val (.int r19), .val (.int r27), .val (.int r35), .val (.int r44), .val (.ref a), .val (.ref b), .val (.int (0 : Int32)), .val (.int r182), .val (.int (1 : Int32))] rfl 335 rfl ?_
          refine Ok.iload cx at_335 rfl 337 rfl ?_
          exact Ok.zreturn cx at_337 (by decide) (by decide) rfl
      · skip
        refine Ok.iconst cx at_154 155 rfl (1 : Int32) rfl ?_
        refine Ok.istore cx at_155 rfl (One.val rfl) [.val (.int p0), .val (.long p1), .second, .val (.long p2), .second, .val (.long p3), .second, .val (.int t2), .val (.int r6), .val (.int r12), .val (.int r19), .val (.int r27), .val (.int r35), .val (.int r44), .val (.ref a), .val (.ref b), .val (.int (1 : Int32)), .unset, .unset] rfl 157 rfl ?_
        refine Ok.goto cx at_157 178 (by decide) ?_
        refine Ok.aload cx at_178 rfl 180 rfl ?_
        refine Ok.aload cx at_180 rfl 182 rfl ?_
        refine Ok.callStatic cx [(.ref a), (.ref b)] [] rfl (own_w hw 12 rfl) (own_w hw 13 rfl) (own_w hw 14 rfl) (own_w hw 15 rfl) at_182 (by decide) pd_3 rfl rfl  (rm_4_3 W.l Z a0 hw a b r27 r35 r44 r6 r12 r19 h114_ n0 Z0 V51 V57 nab za (by have := rng32 r6; omega) (by have := rng32 r12; omega) (by have := rng32 r19; omega)) (by decide) 0 rfl (by decide) (by decide) (by decide) 185 rfl fun v182 h182_ q182 => ?_
        obtain ⟨Z0, V57, r182, rfl, x182⟩ := q182
        show Ok _ _ _ _ _ _ _ _ _ [(.int r182)]
        obtain ⟨x182, y, xy, V51⟩ : r182.toInt = 1 ∧ ∃ y : Int32, y.toInt = r35.toInt + 1 ∧ AI Z h182_ a .int [(.int r27), (.int y), (.int 0)] := by
          rcases x182 with ⟨z1, z2, z3⟩ | ⟨z1, z2, z3⟩ | ⟨z1, z2, z3⟩ | ⟨z1, z2, z3⟩
          · exfalso; omega
          · exact ⟨z1, z3⟩
          · exfalso; omega
          · exfalso; omega
        refine Ok.istore cx at_185 rfl One.u [.val (.int p0), .val (.long p1), .second, .val (.long p2), .second, .val (.long p3), .second, .val (.int t2), .val (.int r6), .val (.int r12), .val (.int r19), .val (.int r27), .val (.int r35), .val (.int r44), .val (.ref a), .val (.ref b), .val (.int (1 : Int32)), .val (.int r182), .unset] rfl 187 rfl ?_
        refine Ok.iload cx at_187 rfl 189 rfl ?_
        refine Ok.iload cx at_189 rfl 191 rfl ?_
        refine Ok.if_lt cx at_191 198 194 (by decide) rfl (fun c191 => by exfalso; omega) (fun c191 => ?_)
        refine Ok.iconst cx at_194 195 rfl (1 : Int32) rfl ?_
        refine Ok.goto cx at_195 199 (by decide) ?_
        refine Ok.icmp_ne cx at_199 206 202 (by decide) rfl (fun c199 => by exfalso; omega) (fun c199 => ?_)
        refine Ok.iconst cx at_202 203 rfl (1 : Int32) rfl ?_
        refine Ok.goto cx at_203 207 (by decide) ?_
        refine Ok.istore cx at_207 rfl One.u [.val (.int p0), .val (.long p1), .second, .val (.long p2), .second, .val (.long p3), .second, .val (.int t2), .val (.int r6), .val (.int r12), .val (.int r19), .val (.int r27), .val (.int r35), .val (.int r44), .val (.ref a), .val (.ref b), .val (.int (1 : Int32)), .val (.int r182), .val (.int (1 : Int32))] rfl 209 rfl ?_
        refine Ok.iload cx at_209 rfl 211 rfl ?_
        refine Ok.iconst cx at_211 212 rfl (1 : Int32) rfl ?_
        refine Ok.icmp_lt cx at_212 251 215 (by decide) rfl (fun c212 => by exfalso; omega) (fun c212 => ?_)
        refine Ok.iload cx at_215 rfl 217 rfl ?_
        refine Ok.if_eq cx at_217 248 220 (by decide) rfl (fun c217 => by exfalso; omega) (fun c217 => ?_)
        refine Ok.aload cx at_220 rfl 222 rfl ?_
        refine Ok.iconst cx at_222 223 rfl (0 : Int32) rfl ?_
        refine Ok.iaload cx at_223 V51 (0) rfl (v := (.int r27)) rfl 224 rfl ?_
        refine Ok.iconst cx at_224 225 rfl (0 : Int32) rfl ?_
        refine Ok.iload cx at_225 rfl 227 rfl ?_
        refine Ok.iload cx at_227 rfl 229 rfl ?_
        refine Ok.callStatic cx [(.int (0 : Int32)), (.int r27), (.int (1 : Int32))] [(.int r27)] rfl (own_w hw 16 rfl) (own_w hw 17 rfl) (own_w hw 2 rfl) (own_w hw 18 rfl) at_229 (by decide) pd_4 rfl rfl  (rm_5 W.l Z a0 hw (0 : Int32) r27 (1 : Int32) h182_ n0 Z0 (by have := rng32 r6; omega)) (by decide) 1 rfl (by decide) (by decide) (by decide) 232 rfl fun v229 h229_ q229 => ?_
        obtain ⟨rfl, r229, rfl, x229⟩ := q229
        show Ok _ _ _ _ _ _ _ _ _ [(.int r229), (.int r27)]
        refine Ok.icmp_ne cx at_232 248 235 (by decide) rfl (fun c232 => by exfalso; omega) (fun c232 => ?_)
        refine Ok.aload cx at_235 rfl 237 rfl ?_
        refine Ok.iconst cx at_237 238 rfl (0 : Int32) rfl ?_
        refine Ok.iaload cx at_238 V57 (0) rfl (v := (.int r6)) rfl 239 rfl ?_
        refine Ok.iload cx at_239 rfl 241 rfl ?_
        refine Ok.icmp_ne cx at_241 248 244 (by decide) rfl (fun c241 => by exfalso; omega) (fun c241 => ?_)
        refine Ok.iconst cx at_244 245 rfl (1 : Int32) rfl ?_
        refine Ok.goto cx at_245 249 (by decide) ?_
        refine Ok.istore cx at_249 rfl (One.val rfl) [.val (.int p0), .val (.long p1), .second, .val (.long p2), .second, .val (.long p3), .second, .val (.int t2), .val (.int r6), .val (.int r12), .val (.int r19), .val (.int r27), .val (.int r35), .val (.int r44), .val (.ref a), .val (.ref b), .val (.int (1 : Int32)), .val (.int r182), .val (.int (1 : Int32))] rfl 251 rfl ?_
        refine Ok.iload cx at_251 rfl 253 rfl ?_
        refine Ok.iconst cx at_253 254 rfl (2 : Int32) rfl ?_
        refine Ok.icmp_lt cx at_254 293 257 (by decide) rfl (fun c254 => by exfalso; omega) (fun c254 => ?_)
        refine Ok.iload cx at_257 rfl 259 rfl ?_
        refine Ok.if_eq cx at_259 290 262 (by decide) rfl (fun c259 => by exfalso; omega) (fun c259 => ?_)
        refine Ok.aload cx at_262 rfl 264 rfl ?_
        refine Ok.iconst cx at_264 265 rfl (1 : Int32) rfl ?_
        refine Ok.iaload cx at_265 V51 (1) rfl (v := (.int y)) rfl 266 rfl ?_
        refine Ok.iconst cx at_266 267 rfl (1 : Int32) rfl ?_
        refine Ok.iload cx at_267 rfl 269 rfl ?_
        refine Ok.iload cx at_269 rfl 271 rfl ?_
        refine Ok.callStatic cx [(.int (1 : Int32)), (.int r35), (.int (1 : Int32))] [(.int y)] rfl (own_w hw 16 rfl) (own_w hw 17 rfl) (own_w hw 2 rfl) (own_w hw 18 rfl) at_271 (by decide) pd_4 rfl rfl  (rm_5 W.l Z a0 hw (1 : Int32) r35 (1 : Int32) h182_ n0 Z0 (by have := rng32 r12; omega)) (by decide) 1 rfl (by decide) (by decide) (by decide) 274 rfl fun v271 h271_ q271 => ?_
        obtain ⟨rfl, r271, rfl, x271⟩ := q271
        show Ok _ _ _ _ _ _ _ _ _ [(.int r271), (.int y)]
        refine Ok.icmp_ne cx at_274 290 277 (by decide) rfl (fun c274 => by exfalso; omega) (fun c274 => ?_)
        refine Ok.aload cx at_277 rfl 279 rfl ?_
        refine Ok.iconst cx at_279 280 rfl (1 : Int32) rfl ?_
        refine Ok.iaload cx at_280 V57 (1) rfl (v := (.int r12)) rfl 281 rfl ?_
        refine Ok.iload cx at_281 rfl 283 rfl ?_
        refine Ok.icmp_ne cx at_283 290 286 (by decide) rfl (fun c283 => by exfalso; omega) (fun c283 => ?_)
        refine Ok.iconst cx at_286 287 rfl (1 : Int32) rfl ?_
        refine Ok.goto cx at_287 291 (by decide) ?_
        refine Ok.istore cx at_291 rfl (One.val rfl) [.val (.int p0), .val (.long p1), .second, .val (.long p2), .second, .val (.long p3), .second, .val (.int t2), .val (.int r6), .val (.int r12), .val (.int r19), .val (.int r27), .val (.int r35), .val (.int r44), .val (.ref a), .val (.ref b), .val (.int (1 : Int32)), .val (.int r182), .val (.int (1 : Int32))] rfl 293 rfl ?_
        refine Ok.iload cx at_293 rfl 295 rfl ?_
        refine Ok.iconst cx at_295 296 rfl (3 : Int32) rfl ?_
        refine Ok.icmp_lt cx at_296 335 299 (by decide) rfl (fun c296 => by exfalso; omega) (fun c296 => ?_)
        refine Ok.iload cx at_299 rfl 301 rfl ?_
        refine Ok.if_eq cx at_301 332 304 (by decide) rfl (fun c301 => by exfalso; omega) (fun c301 => ?_)
        refine Ok.aload cx at_304 rfl 306 rfl ?_
        refine Ok.iconst cx at_306 307 rfl (2 : Int32) rfl ?_
        refine Ok.iaload cx at_307 V51 (2) rfl (v := (.int (0 : Int32))) rfl 308 rfl ?_
        refine Ok.iconst cx at_308 309 rfl (2 : Int32) rfl ?_
        refine Ok.iload cx at_309 rfl 311 rfl ?_
        refine Ok.iload cx at_311 rfl 313 rfl ?_
        refine Ok.callStatic cx [(.int (2 : Int32)), (.int r44), (.int (1 : Int32))] [(.int (0 : Int32))] rfl (own_w hw 16 rfl) (own_w hw 17 rfl) (own_w hw 2 rfl) (own_w hw 18 rfl) at_313 (by decide) pd_4 rfl rfl  (rm_5 W.l Z a0 hw (2 : Int32) r44 (1 : Int32) h182_ n0 Z0 (by have := rng32 r19; omega)) (by decide) 1 rfl (by decide) (by decide) (by decide) 316 rfl fun v313 h313_ q313 => ?_
        obtain ⟨rfl, r313, rfl, x313⟩ := q313
        show Ok _ _ _ _ _ _ _ _ _ [(.int r313), (.int (0 : Int32))]
        refine Ok.icmp_ne cx at_316 332 319 (by decide) rfl (fun c316 => by exfalso; omega) (fun c316 => ?_)
        refine Ok.aload cx at_319 rfl 321 rfl ?_
        refine Ok.iconst cx at_321 322 rfl (2 : Int32) rfl ?_
        refine Ok.iaload cx at_322 V57 (2) rfl (v := (.int r19)) rfl 323 rfl ?_
        refine Ok.iload cx at_323 rfl 325 rfl ?_
        refine Ok.icmp_ne cx at_325 332 328 (by decide) rfl (fun c325 => by exfalso; omega) (fun c325 => ?_)
        refine Ok.iconst cx at_328 329 rfl (1 : Int32) rfl ?_
        refine Ok.goto cx at_329 333 (by decide) ?_
        refine Ok.istore cx at_333 rfl (One.val rfl) [.val (.int p0), .val (.long p1), .second, .val (.long p2), .second, .val (.long p3), .second, .val (.int t2), .val (.int r6), .val (.int r12), .val (.int r19), .val (.int r27), .val (.int r35), .val (.int r44), .val (.ref a), .val (.ref b), .val (.int (1 : Int32)), .val (.int r182), .val (.int (1 : Int32))] rfl 335 rfl ?_
        refine Ok.iload cx at_335 rfl 337 rfl ?_
        exact Ok.zreturn cx at_337 (by decide) (by decide) rfl
    · skip
      refine Ok.iconst cx at_133 134 rfl (2 : Int32) rfl ?_
      refine Ok.istore cx at_134 rfl (One.val rfl) [.val (.int p0), .val (.long p1), .second, .val (.long p2), .second, .val (.long p3), .second, .val (.int t2), .val (.int r6), .val (.int r12), .val (.int r19), .val (.int r27), .val (.int r35), .val (.int r44), .val (.ref a), .val (.ref b), .val (.int (2 : Int32)), .unset, .unset] rfl 136 rfl ?_
      refine Ok.goto cx at_136 178 (by decide) ?_
      refine Ok.aload cx at_178 rfl 180 rfl ?_
      refine Ok.aload cx at_180 rfl 182 rfl ?_
      refine Ok.callStatic cx [(.ref a), (.ref b)] [] rfl (own_w hw 12 rfl) (own_w hw 13 rfl) (own_w hw 14 rfl) (own_w hw 15 rfl) at_182 (by decide) pd_3 rfl rfl  (rm_4_3 W.l Z a0 hw a b r27 r35 r44 r6 r12 r19 h114_ n0 Z0 V51 V57 nab za (by have := rng32 r6; omega) (by have := rng32 r12; omega) (by have := rng32 r19; omega)) (by decide) 0 rfl (by decide) (by decide) (by decide) 185 rfl fun v182 h182_ q182 => ?_
      obtain ⟨Z0, V57, r182, rfl, x182⟩ := q182
      show Ok _ _ _ _ _ _ _ _ _ [(.int r182)]
      obtain ⟨x182, y, xy, V51⟩ : r182.toInt = 1 ∧ ∃ y : Int32, y.toInt = r44.toInt + 1 ∧ AI Z h182_ a .int [(.int r27), (.int r35), (.int y)] := by
        rcases x182 with ⟨z1, z2, z3⟩ | ⟨z1, z2, z3⟩ | ⟨z1, z2, z3⟩ | ⟨z1, z2, z3⟩
        · exact ⟨z1, z3⟩
        · exfalso; omega
        · exfalso; omega
        · exfalso; omega
      refine Ok.istore cx at_185 rfl One.u [.val (.int p0), .val (.long p1), .second, .val (.long p2), .second, .val (.long p3), .second, .val (.int t2), .val (.int r6), .val (.int r12), .val (.int r19), .val (.int r27), .val (.int r35), .val (.int r44), .val (.ref a), .val (.ref b), .val (.int (2 : Int32)), .val (.int r182), .unset] rfl 187 rfl ?_
      refine Ok.iload cx at_187 rfl 189 rfl ?_
      refine Ok.iload cx at_189 rfl 191 rfl ?_
      refine Ok.if_lt cx at_191 198 194 (by decide) rfl (fun c191 => by exfalso; omega) (fun c191 => ?_)
      refine Ok.iconst cx at_194 195 rfl (1 : Int32) rfl ?_
      refine Ok.goto cx at_195 199 (by decide) ?_
      refine Ok.icmp_ne cx at_199 206 202 (by decide) rfl (fun c199 => by exfalso; omega) (fun c199 => ?_)
      refine Ok.iconst cx at_202 203 rfl (1 : Int32) rfl ?_
      refine Ok.goto cx at_203 207 (by decide) ?_
      refine Ok.istore cx at_207 rfl One.u [.val (.int p0), .val (.long p1), .second, .val (.long p2), .second, .val (.long p3), .second, .val (.int t2), .val (.int r6), .val (.int r12), .val (.int r19), .val (.int r27), .val (.int r35), .val (.int r44), .val (.ref a), .val (.ref b), .val (.int (2 : Int32)), .val (.int r182), .val (.int (1 : Int32))] rfl 209 rfl ?_
      refine Ok.iload cx at_209 rfl 211 rfl ?_
      refine Ok.iconst cx at_211 212 rfl (1 : Int32) rfl ?_
      refine Ok.icmp_lt cx at_212 251 215 (by decide) rfl (fun c212 => by exfalso; omega) (fun c212 => ?_)
      refine Ok.iload cx at_215 rfl 217 rfl ?_
      refine Ok.if_eq cx at_217 248 220 (by decide) rfl (fun c217 => by exfalso; omega) (fun c217 => ?_)
      refine Ok.aload cx at_220 rfl 222 rfl ?_
      refine Ok.iconst cx at_222 223 rfl (0 : Int32) rfl ?_
      refine Ok.iaload cx at_223 V51 (0) rfl (v := (.int r27)) rfl 224 rfl ?_
      refine Ok.iconst cx at_224 225 rfl (0 : Int32) rfl ?_
      refine Ok.iload cx at_225 rfl 227 rfl ?_
      refine Ok.iload cx at_227 rfl 229 rfl ?_
      refine Ok.callStatic cx [(.int (0 : Int32)), (.int r27), (.int (2 : Int32))] [(.int r27)] rfl (own_w hw 16 rfl) (own_w hw 17 rfl) (own_w hw 2 rfl) (own_w hw 18 rfl) at_229 (by decide) pd_4 rfl rfl  (rm_5 W.l Z a0 hw (0 : Int32) r27 (2 : Int32) h182_ n0 Z0 (by have := rng32 r6; omega)) (by decide) 1 rfl (by decide) (by decide) (by decide) 232 rfl fun v229 h229_ q229 => ?_
      obtain ⟨rfl, r229, rfl, x229⟩ := q229
      show Ok _ _ _ _ _ _ _ _ _ [(.int r229), (.int r27)]
      refine Ok.icmp_ne cx at_232 248 235 (by decide) rfl (fun c232 => by exfalso; omega) (fun c232 => ?_)
      refine Ok.aload cx at_235 rfl 237 rfl ?_
      refine Ok.iconst cx at_237 238 rfl (0 : Int32) rfl ?_
      refine Ok.iaload cx at_238 V57 (0) rfl (v := (.int r6)) rfl 239 rfl ?_
      refine Ok.iload cx at_239 rfl 241 rfl ?_
      refine Ok.icmp_ne cx at_241 248 244 (by decide) rfl (fun c241 => by exfalso; omega) (fun c241 => ?_)
      refine Ok.iconst cx at_244 245 rfl (1 : Int32) rfl ?_
      refine Ok.goto cx at_245 249 (by decide) ?_
      refine Ok.istore cx at_249 rfl (One.val rfl) [.val (.int p0), .val (.long p1), .second, .val (.long p2), .second, .val (.long p3), .second, .val (.int t2), .val (.int r6), .val (.int r12), .val (.int r19), .val (.int r27), .val (.int r35), .val (.int r44), .val (.ref a), .val (.ref b), .val (.int (2 : Int32)), .val (.int r182), .val (.int (1 : Int32))] rfl 251 rfl ?_
      refine Ok.iload cx at_251 rfl 253 rfl ?_
      refine Ok.iconst cx at_253 254 rfl (2 : Int32) rfl ?_
      refine Ok.icmp_lt cx at_254 293 257 (by decide) rfl (fun c254 => by exfalso; omega) (fun c254 => ?_)
      refine Ok.iload cx at_257 rfl 259 rfl ?_
      refine Ok.if_eq cx at_259 290 262 (by decide) rfl (fun c259 => by exfalso; omega) (fun c259 => ?_)
      refine Ok.aload cx at_262 rfl 264 rfl ?_
      refine Ok.iconst cx at_264 265 rfl (1 : Int32) rfl ?_
      refine Ok.iaload cx at_265 V51 (1) rfl (v := (.int r35)) rfl 266 rfl ?_
      refine Ok.iconst cx at_266 267 rfl (1 : Int32) rfl ?_
      refine Ok.iload cx at_267 rfl 269 rfl ?_
      refine Ok.iload cx at_269 rfl 271 rfl ?_
      refine Ok.callStatic cx [(.int (1 : Int32)), (.int r35), (.int (2 : Int32))] [(.int r35)] rfl (own_w hw 16 rfl) (own_w hw 17 rfl) (own_w hw 2 rfl) (own_w hw 18 rfl) at_271 (by decide) pd_4 rfl rfl  (rm_5 W.l Z a0 hw (1 : Int32) r35 (2 : Int32) h182_ n0 Z0 (by have := rng32 r12; omega)) (by decide) 1 rfl (by decide) (by decide) (by decide) 274 rfl fun v271 h271_ q271 => ?_
      obtain ⟨rfl, r271, rfl, x271⟩ := q271
      show Ok _ _ _ _ _ _ _ _ _ [(.int r271), (.int r35)]
      refine Ok.icmp_ne cx at_274 290 277 (by decide) rfl (fun c274 => by exfalso; omega) (fun c274 => ?_)
      refine Ok.aload cx at_277 rfl 279 rfl ?_
      refine Ok.iconst cx at_279 280 rfl (1 : Int32) rfl ?_
      refine Ok.iaload cx at_280 V57 (1) rfl (v := (.int r12)) rfl 281 rfl ?_
      refine Ok.iload cx at_281 rfl 283 rfl ?_
      refine Ok.icmp_ne cx at_283 290 286 (by decide) rfl (fun c283 => by exfalso; omega) (fun c283 => ?_)
      refine Ok.iconst cx at_286 287 rfl (1 : Int32) rfl ?_
      refine Ok.goto cx at_287 291 (by decide) ?_
      refine Ok.istore cx at_291 rfl (One.val rfl) [.val (.int p0), .val (.long p1), .second, .val (.long p2), .second, .val (.long p3), .second, .val (.int t2), .val (.int r6), .val (.int r12), .val (.int r19), .val (.int r27), .val (.int r35), .val (.int r44), .val (.ref a), .val (.ref b), .val (.int (2 : Int32)), .val (.int r182), .val (.int (1 : Int32))] rfl 293 rfl ?_
      refine Ok.iload cx at_293 rfl 295 rfl ?_
      refine Ok.iconst cx at_295 296 rfl (3 : Int32) rfl ?_
      refine Ok.icmp_lt cx at_296 335 299 (by decide) rfl (fun c296 => by exfalso; omega) (fun c296 => ?_)
      refine Ok.iload cx at_299 rfl 301 rfl ?_
      refine Ok.if_eq cx at_301 332 304 (by decide) rfl (fun c301 => by exfalso; omega) (fun c301 => ?_)
      refine Ok.aload cx at_304 rfl 306 rfl ?_
      refine Ok.iconst cx at_306 307 rfl (2 : Int32) rfl ?_
      refine Ok.iaload cx at_307 V51 (2) rfl (v := (.int y)) rfl 308 rfl ?_
      refine Ok.iconst cx at_308 309 rfl (2 : Int32) rfl ?_
      refine Ok.iload cx at_309 rfl 311 rfl ?_
      refine Ok.iload cx at_311 rfl 313 rfl ?_
      refine Ok.callStatic cx [(.int (2 : Int32)), (.int r44), (.int (2 : Int32))] [(.int y)] rfl (own_w hw 16 rfl) (own_w hw 17 rfl) (own_w hw 2 rfl) (own_w hw 18 rfl) at_313 (by decide) pd_4 rfl rfl  (rm_5 W.l Z a0 hw (2 : Int32) r44 (2 : Int32) h182_ n0 Z0 (by have := rng32 r19; omega)) (by decide) 1 rfl (by decide) (by decide) (by decide) 316 rfl fun v313 h313_ q313 => ?_
      obtain ⟨rfl, r313, rfl, x313⟩ := q313
      show Ok _ _ _ _ _ _ _ _ _ [(.int r313), (.int y)]
      refine Ok.icmp_ne cx at_316 332 319 (by decide) rfl (fun c316 => by exfalso; omega) (fun c316 => ?_)
      refine Ok.aload cx at_319 rfl 321 rfl ?_
      refine Ok.iconst cx at_321 322 rfl (2 : Int32) rfl ?_
      refine Ok.iaload cx at_322 V57 (2) rfl (v := (.int r19)) rfl 323 rfl ?_
      refine Ok.iload cx at_323 rfl 325 rfl ?_
      refine Ok.icmp_ne cx at_325 332 328 (by decide) rfl (fun c325 => by exfalso; omega) (fun c325 => ?_)
      refine Ok.iconst cx at_328 329 rfl (1 : Int32) rfl ?_
      refine Ok.goto cx at_329 333 (by decide) ?_
      refine Ok.istore cx at_333 rfl (One.val rfl) [.val (.int p0), .val (.long p1), .second, .val (.long p2), .second, .val (.long p3), .second, .val (.int t2), .val (.int r6), .val (.int r12), .val (.int r19), .val (.int r27), .val (.int r35), .val (.int r44), .val (.ref a), .val (.ref b), .val (.int (2 : Int32)), .val (.int r182), .val (.int (1 : Int32))] rfl 335 rfl ?_
      refine Ok.iload cx at_335 rfl 337 rfl ?_
      exact Ok.zreturn cx at_337 (by decide) (by decide) rfl
set_option maxRecDepth 65536 in
set_option maxHeartbeats 40000000 in
theorem comes_1 {Post : Tables → Env → Array Value → State → Outcome → State → Prop} (hpost : ∀ tb e args s v u, (limb_1_1.after args s (.returned v) u = true ∧ limb_1_2.after args s (.returned v) u = true ∧ True) → FrameEnd s (.returned v) u (Jvm.fieldLocs frame_1_writes args s ++ Jvm.arrayLocs frame_1_arrays args s ++ Jvm.staticLocs frame_1_statics s) 16 128 → Post tb e args s (.returned v) u) :
    ArmFor flags0 classFile x code maxLocals ret World_1 tables_1 room_1 Calls_1 rest_1 Pre_1 Post := by
  intro l hfl _ _ p e ha hc hk s m args below hf hA hF happ hP
  obtain ⟨hcalls, hrest, hpre⟩ := hP
  obtain ⟨-, -, -, hnamed, -, -, -, hat⟩ := (Spec.applies_iff hf).mp happ
  obtain ⟨hg, hn⟩ := and_e (Cond.before_iff.mp (show (Jvm.Cond.and given_1 narrow_1).before args s = true from hpre))
  obtain ⟨hcount, g0⟩ := and_e hg
  obtain ⟨b0, g1⟩ := and_e g0
  obtain ⟨b1, g2⟩ := and_e g1
  obtain ⟨b2, g3⟩ := and_e g2
  have b3 := g3
  obtain ⟨w0, w1, w2, w3, rfl⟩ : ∃ w0 w1 w2 w3 : Value, args = #[w0, w1, w2, w3] := by
    have hs : args.size = 4 := by simpa [Cond.value, given_1] using hcount
    obtain ⟨L⟩ := args
    match L, hs with
    | [w0, w1, w2, w3], _ => exact ⟨w0, w1, w2, w3, rfl⟩
  have hw := fun d (hd : d ∈ tables_1) => atoms_spec (ws := Jvm.Cond.code x code maxLocals ret :: tables_1) hat d (List.mem_cons_of_mem _ hd)
  obtain ⟨i0, q0⟩ := is_v b0
  obtain rfl : w0 = (.int i0) := Option.some.inj q0
  obtain ⟨i1, q1⟩ := isL_v b1
  obtain rfl : w1 = (.long i1) := Option.some.inj q1
  obtain ⟨i2, q2⟩ := isL_v b2
  obtain rfl : w2 = (.long i2) := Option.some.inj q2
  obtain ⟨i3, q3⟩ := isL_v b3
  obtain rfl : w3 = (.long i3) := Option.some.inj q3
  obtain ⟨n, o, h1, h2, h3, _, L, rfl, ⟨rfl, N⟩, hq⟩ := rm_0 l s _ hw i0 i1 i2 i3 s.heap s.heap.size (Nat.le_refl _) p e ha hc hk s m _ below hf ((Spec.applies_iff_loose hf).mp happ).1 ⟨rfl, State.Warmed39.refl s, rfl⟩ trivial
  refine ⟨n, _, h1, h2, h3, hpost _ _ _ _ _ _ ⟨Cond.after_iff.mpr rfl, Cond.after_iff.mpr (eq_i res_at (Term.int_eval (1)) rfl), trivial⟩ ⟨hq.1, hq.2.1, (hq.2.2.sift fun y hy => Or.inr (N y hy)).mono (by decide) (by decide)⟩⟩
theorem main_1_1 : Claimed_1_1 := comes_1 fun _ _ _ _ _ _ h hF => ⟨h.1, hF⟩
theorem main_1_2 : Claimed_1_2 := comes_1 fun _ _ _ _ _ _ h hF => ⟨h.2.1, hF⟩
end Jvm.Pilot.@@N@@
namespace Jvm.Pilot.@@N@@
open Jvm Jvm.ClassFile Sem Op Lib Jvm.Free Jvm.Stand Jvm.Pilot.@@N@@.Jvm.D
/-! MADE BY PROGRAM (witnessworld.py) out of the Statement's table words and the real class files: 11 classes; the members and pool entries that the words name. The judged class is class 1, her method 4. -/
namespace start1
open Jvm.ClassFile
def u (s : String) : CpInfo := .utf8 (stringToUtf16 s)
/-- a pool by its gaps: so many unusable entries, then the entry; so many at the end -/
def gap : Nat → List CpInfo → List CpInfo
  | 0, r => r
  | n + 1, r => .unusable :: gap n r
def poolList (es : List (Nat × CpInfo)) (last : Nat) : List CpInfo := es.foldr (fun e r => gap e.1 (e.2 :: r)) (gap last [])
def pool (es : List (Nat × CpInfo)) (last : Nat) : Array CpInfo := ⟨poolList es last⟩
def fileOf (pool : Array CpInfo) (this : Nat) (attrs : Array Attribute := #[]) (ms : Array MethodInfo := #[]) (fl : Nat := 33) (sup : Nat := 0) (ifs : Array Nat := #[]) (fds : Array FieldInfo := #[]) : ClassFile where
  minorVersion := 0
  majorVersion := 65
  constantPool := pool
  accessFlags := fl
  thisClass := this
  superClass := sup
  interfaces := ifs
  fields := fds
  methods := ms
  attributes := attrs
def plain (name : String) (sup : Option ClassId) : Class where
  name := name
  kind := .ordinary
  loader := none
  accessFlags := 33
  super := sup
  interfaces := #[]
  cf := none
  fields := #[]
  methods := #[]
  instanceTypes := #[]
  staticTypes := #[]
  resolved := #[]
  callSites := []
  init := .initialized
  statics := none
  mirror := none

def pool0 : Array CpInfo := pool [(5, u "<init>"), (0, u "()V"), (1, .class_ 10), (1, u "java/lang/Object")] 113

def k0m0 : Method := { name := "<init>", desc := "()V", sig := { parameters := [], returnType := none }, accessFlags := 1, code := none }
/-- java/lang/Object -/
def k0 : Class := { plain "java/lang/Object" none with
  accessFlags := 33
  interfaces := #[]
  cf := some (fileOf pool0 8 #[] #[{ accessFlags := 1, nameIndex := 5, descriptorIndex := 6, attributes := #[] }] 33 0 #[] #[])
  fields := #[]
  methods := #[k0m0]
  instanceTypes := #[]
  staticTypes := #[]
  resolved := Array.replicate 124 none
  statics := none }

def pool1 : Array CpInfo := pool [(2, .class_ 4), (1, u "java/lang/Object"), (0, u "<init>"), (0, u "()V"), (0, .methodref 8 9), (0, .class_ 10), (0, .nameAndType 11 12), (0, u "java/lang/Math"), (0, u "max"), (0, u "(II)I"), (0, .methodref 14 15), (0, .class_ 16), (0, .nameAndType 17 18), (0, u "com/example/leeway/leeway/model/ListedTuplesNextTuplePinLaw"), (0, u "size"), (0, u "(J)I"), (0, .methodref 14 20), (0, .nameAndType 21 22), (0, u "value"), (0, u "(JI)I"), (0, .methodref 24 25), (0, .class_ 26), (0, .nameAndType 27 28), (0, u "com/example/leeway/leeway/model/ListedTuples"), (0, u "nextTuple"), (0, u "([I[I)Z"), (0, .methodref 14 30), (0, .nameAndType 31 32), (0, u "expected"), (0, u "(III)I"), (3, u "law"), (0, u "(IJJJ)Z")] 4

def k1m0 : Method := { name := "<init>", desc := "()V", sig := { parameters := [], returnType := none }, accessFlags := 2, code := none }
def k1c1 : Code := { maxStack := 3, maxLocals := 3, code := method_2_code, exceptionTable := #[], attributes := #[] }
def k1m1 : Method := { name := "size", desc := "(J)I", sig := { parameters := [.long], returnType := some .int }, accessFlags := 10, code := some k1c1 }
def k1c2 : Code := { maxStack := 2, maxLocals := 4, code := method_3_code, exceptionTable := #[], attributes := #[] }
def k1m2 : Method := { name := "value", desc := "(JI)I", sig := { parameters := [.long, .int], returnType := some .int }, accessFlags := 10, code := some k1c2 }
def k1c3 : Code := { maxStack := 2, maxLocals := 3, code := method_4_code, exceptionTable := #[], attributes := #[] }
def k1m3 : Method := { name := "expected", desc := "(III)I", sig := { parameters := [.int, .int, .int], returnType := some .int }, accessFlags := 10, code := some k1c3 }
def k1c4 : Code := { maxStack := 4, maxLocals := 19, code := code, exceptionTable := #[], attributes := #[] }
def k1m4 : Method := { name := "law", desc := "(IJJJ)Z", sig := { parameters := [.int, .long, .long, .long], returnType := some .boolean }, accessFlags := 9, code := some k1c4 }
/-- com/example/leeway/leeway/model/ListedTuplesNextTuplePinLaw -/
def k1 : Class := { plain "com/example/leeway/leeway/model/ListedTuplesNextTuplePinLaw" (some 0) with
  accessFlags := 49
  interfaces := #[]
  cf := some (fileOf pool1 14 #[] #[{ accessFlags := 2, nameIndex := 5, descriptorIndex := 6, attributes := #[] }, { accessFlags := 10, nameIndex := 17, descriptorIndex := 18, attributes := #[] }, { accessFlags := 10, nameIndex := 21, descriptorIndex := 22, attributes := #[] }, { accessFlags := 10, nameIndex := 31, descriptorIndex := 32, attributes := #[] }, { accessFlags := 9, nameIndex := 36, descriptorIndex := 37, attributes := #[] }] 49 2 #[] #[])
  fields := #[]
  methods := #[k1m0, k1m1, k1m2, k1m3, k1m4]
  instanceTypes := #[]
  staticTypes := #[]
  resolved := Array.replicate 42 none
  statics := none }

def pool2 : Array CpInfo := pool [(1, .class_ 2), (0, u "java/lang/Math"), (1, .class_ 6), (1, u "java/lang/Object"), (0, u "<init>"), (0, u "()V"), (89, .class_ 100), (1, u "java/lang/Math$RandomNumberGeneratorHolder"), (71, u "negativeZeroFloatBits"), (0, u "J"), (2, u "negativeZeroDoubleBits"), (21, u "max"), (46, u "$assertionsDisabled"), (0, u "Z"), (88, u "(II)I"), (2, u "twoToTheDoubleScaleDown"), (0, u "D"), (4, u "twoToTheDoubleScaleUp"), (9, u "E"), (3, u "PI"), (2, u "TAU"), (2, u "DEGREES_TO_RADIANS"), (0, u "RADIANS_TO_DEGREES")] 94

def k2m0 : Method := { name := "<init>", desc := "()V", sig := { parameters := [], returnType := none }, accessFlags := 2, code := none }
def k2c1 : Code := { maxStack := 2, maxLocals := 2, code := jdk_29_method_65_code, exceptionTable := #[], attributes := #[] }
def k2m1 : Method := { name := "max", desc := "(II)I", sig := { parameters := [.int, .int], returnType := some .int }, accessFlags := 9, code := some k2c1 }
/-- java/lang/Math -/
def k2 : Class := { plain "java/lang/Math" (some 0) with
  accessFlags := 49
  interfaces := #[]
  cf := some (fileOf pool2 1 #[.nestMembers #[98]] #[{ accessFlags := 2, nameIndex := 7, descriptorIndex := 8, attributes := #[] }, { accessFlags := 9, nameIndex := 198, descriptorIndex := 335, attributes := #[] }] 49 4 #[] #[{ accessFlags := 25, nameIndex := 354, descriptorIndex := 339, attributes := #[] }, { accessFlags := 25, nameIndex := 358, descriptorIndex := 339, attributes := #[] }, { accessFlags := 25, nameIndex := 361, descriptorIndex := 339, attributes := #[] }, { accessFlags := 26, nameIndex := 364, descriptorIndex := 339, attributes := #[] }, { accessFlags := 26, nameIndex := 365, descriptorIndex := 339, attributes := #[] }, { accessFlags := 26, nameIndex := 172, descriptorIndex := 173, attributes := #[] }, { accessFlags := 26, nameIndex := 176, descriptorIndex := 173, attributes := #[] }, { accessFlags := 8, nameIndex := 344, descriptorIndex := 339, attributes := #[] }, { accessFlags := 8, nameIndex := 338, descriptorIndex := 339, attributes := #[] }, { accessFlags := 4120, nameIndex := 245, descriptorIndex := 246, attributes := #[] }])
  fields := #[{ name := "E", type := .double, accessFlags := 25, slot := 0, constantValue := 0 }, { name := "PI", type := .double, accessFlags := 25, slot := 1, constantValue := 0 }, { name := "TAU", type := .double, accessFlags := 25, slot := 2, constantValue := 0 }, { name := "DEGREES_TO_RADIANS", type := .double, accessFlags := 26, slot := 3, constantValue := 0 }, { name := "RADIANS_TO_DEGREES", type := .double, accessFlags := 26, slot := 4, constantValue := 0 }, { name := "negativeZeroFloatBits", type := .long, accessFlags := 26, slot := 5, constantValue := 0 }, { name := "negativeZeroDoubleBits", type := .long, accessFlags := 26, slot := 6, constantValue := 0 }, { name := "twoToTheDoubleScaleUp", type := .double, accessFlags := 8, slot := 7, constantValue := 0 }, { name := "twoToTheDoubleScaleDown", type := .double, accessFlags := 8, slot := 8, constantValue := 0 }, { name := "$assertionsDisabled", type := .boolean, accessFlags := 4120, slot := 9, constantValue := 0 }]
  methods := #[k2m0, k2m1]
  instanceTypes := #[]
  staticTypes := #[.double, .double, .double, .double, .double, .long, .long, .double, .double, .boolean]
  resolved := Array.replicate 460 none
  statics := none }

def pool3 : Array CpInfo := pool [(1, .class_ 2), (0, u "java/lang/Comparable"), (0, .class_ 4), (0, u "java/lang/Object")] 7

/-- java/lang/Comparable -/
def k3 : Class := { plain "java/lang/Comparable" (some 0) with
  accessFlags := 1537
  interfaces := #[]
  cf := some (fileOf pool3 1 #[] #[] 1537 3 #[] #[])
  fields := #[]
  methods := #[]
  instanceTypes := #[]
  staticTypes := #[]
  resolved := Array.replicate 12 none
  statics := none }

def pool4 : Array CpInfo := pool [(2, .class_ 4), (1, u "java/lang/Object"), (3, .class_ 10), (1, u "com/example/leeway/leeway/model/ListedTuples"), (0, u "arity"), (0, u "I"), (2, u "values"), (0, u "[I"), (2, u "costs"), (0, u "[J"), (2, u "extents"), (8, u "dense"), (2, u "strides"), (6, u "hash"), (134, u "nextTuple"), (0, u "([I[I)Z"), (94, .class_ 274), (0, u "java/lang/Comparable"), (0, u "UNLISTED"), (0, u "J"), (1, u "MIX")] 86

def k4c0 : Code := { maxStack := 4, maxLocals := 3, code := prog_29_method_21_code, exceptionTable := #[], attributes := #[] }
def k4m0 : Method := { name := "nextTuple", desc := "([I[I)Z", sig := { parameters := [(.array .int), (.array .int)], returnType := some .boolean }, accessFlags := 8, code := some k4c0 }
/-- com/example/leeway/leeway/model/ListedTuples -/
def k4 : Class := { plain "com/example/leeway/leeway/model/ListedTuples" (some 0) with
  accessFlags := 48
  interfaces := #[3]
  cf := some (fileOf pool4 8 #[] #[{ accessFlags := 8, nameIndex := 177, descriptorIndex := 178, attributes := #[] }] 48 2 #[273] #[{ accessFlags := 24, nameIndex := 275, descriptorIndex := 276, attributes := #[] }, { accessFlags := 26, nameIndex := 278, descriptorIndex := 276, attributes := #[] }, { accessFlags := 18, nameIndex := 11, descriptorIndex := 12, attributes := #[] }, { accessFlags := 18, nameIndex := 15, descriptorIndex := 16, attributes := #[] }, { accessFlags := 18, nameIndex := 19, descriptorIndex := 20, attributes := #[] }, { accessFlags := 18, nameIndex := 23, descriptorIndex := 16, attributes := #[] }, { accessFlags := 18, nameIndex := 32, descriptorIndex := 20, attributes := #[] }, { accessFlags := 18, nameIndex := 35, descriptorIndex := 16, attributes := #[] }, { accessFlags := 18, nameIndex := 42, descriptorIndex := 12, attributes := #[] }])
  fields := #[{ name := "UNLISTED", type := .long, accessFlags := 24, slot := 0, constantValue := 0 }, { name := "MIX", type := .long, accessFlags := 26, slot := 1, constantValue := 0 }, { name := "arity", type := .int, accessFlags := 18, slot := 0, constantValue := 0 }, { name := "values", type := (.array .int), accessFlags := 18, slot := 1, constantValue := 0 }, { name := "costs", type := (.array .long), accessFlags := 18, slot := 2, constantValue := 0 }, { name := "extents", type := (.array .int), accessFlags := 18, slot := 3, constantValue := 0 }, { name := "dense", type := (.array .long), accessFlags := 18, slot := 4, constantValue := 0 }, { name := "strides", type := (.array .int), accessFlags := 18, slot := 5, constantValue := 0 }, { name := "hash", type := .int, accessFlags := 18, slot := 6, constantValue := 0 }]
  methods := #[k4m0]
  instanceTypes := #[.int, (.array .int), (.array .long), (.array .int), (.array .long), (.array .int), .int]
  staticTypes := #[.long, .long]
  resolved := Array.replicate 365 none
  statics := none }

def pool5 : Array CpInfo := pool [(1, u "java/lang/Cloneable"), (0, .class_ 1), (0, u "java/lang/Object"), (0, .class_ 3)] 3

/-- java/lang/Cloneable -/
def k5 : Class := { plain "java/lang/Cloneable" (some 0) with
  accessFlags := 1537
  interfaces := #[]
  cf := some (fileOf pool5 2 #[] #[] 1537 4 #[] #[])
  fields := #[]
  methods := #[]
  instanceTypes := #[]
  staticTypes := #[]
  resolved := Array.replicate 8 none
  statics := none }

def pool6 : Array CpInfo := pool [(1, u "java/io/Serializable"), (0, .class_ 1), (0, u "java/lang/Object"), (0, .class_ 3)] 3

/-- java/io/Serializable -/
def k6 : Class := { plain "java/io/Serializable" (some 0) with
  accessFlags := 1537
  interfaces := #[]
  cf := some (fileOf pool6 2 #[] #[] 1537 4 #[] #[])
  fields := #[]
  methods := #[]
  instanceTypes := #[]
  staticTypes := #[]
  resolved := Array.replicate 8 none
  statics := none }

/-- the primitive byte -/
def k7 : Class := { plain "byte" none with kind := .primitive 'B', accessFlags := 0x411 }
/-- [B -/
def k8 : Class := { plain "[B" (some 0) with kind := .array 7 .byte, interfaces := #[5, 6], accessFlags := 1041 }

/-- the primitive int -/
def k9 : Class := { plain "int" none with kind := .primitive 'I', accessFlags := 0x411 }
/-- [I -/
def k10 : Class := { plain "[I" (some 0) with kind := .array 9 .int, interfaces := #[5, 6], accessFlags := 1041 }

def heap : Heap := #[]
def classes : Array Class := #[k0, k1, k2, k3, k4, k5, k6, k7, k8, k9, k10]
def interned : List (Array UInt16 × Addr) := []
def slotsUsed : Nat := 0
def theMethod : MethodId := ⟨1, 4⟩
def args0 : Array Value := #[.int 2, .long 5, .long 7, .long 9]
def aboutOver (below : List Frame) : State where
  vm := { classes := classes, interned := interned.toArray }
  heap := heap
  slotsUsed := slotsUsed
  threads := #[{ frames := .invoking theMethod args0 :: below }]
def below0 : List Frame := [.native { method := ⟨0, 0⟩, args := #[] }]
def about1 : State := aboutOver below0
def p0 : Program := .bare "" "" ""
def e0 : Env := launch0.env 0 0 0
theorem w_frames : about1.frames = Frame.invoking theMethod args0 :: below0 := rfl
set_option maxRecDepth 65536 in
theorem w_args : argsFit about1.vm theMethod args0 = true := by decide +kernel
set_option maxRecDepth 65536 in
theorem w_heap : heapFits about1 = true := by decide +kernel
set_option maxRecDepth 65536 in
theorem w_runnable : about1.curStatus? = some .runnable := by decide +kernel
set_option maxRecDepth 65536 in
theorem w_alone : about1.alone = true := by decide +kernel
set_option maxRecDepth 65536 in
theorem w_named : about1.methodNamed? x = some theMethod := by decide +kernel
set_option maxRecDepth 65536 in
theorem w_hears : about1.hears theMethod below0 = true := by decide +kernel
set_option maxRecDepth 65536 in
theorem w_ripe : about1.ripe theMethod args0 below0 = true := by decide +kernel
theorem w_running : about1.status = .running := rfl
set_option maxRecDepth 65536 in
theorem w_room : about1.hasRoom e0.platform room_1 = true :=
  launch0.hasRoom_least _ room_1 (by decide +kernel) (by decide +kernel) (by decide +kernel) (by decide +kernel) (by decide +kernel) (by decide +kernel)
theorem allAtoms_all (ts : List Jvm.Cond) (a : Array Jvm.Value) (st : Jvm.State) : (allAtoms ts).before a st = ts.all (fun c => c.before a st) := by
  induction ts with
  | nil => rfl
  | cons c t ih =>
    show (Jvm.Cond.and c (allAtoms t)).before a st = _
    rw [Jvm.Cond.before_and, ih, List.all_cons]
def words1 : List Jvm.Cond := Jvm.Cond.code x code maxLocals ret :: tables_1
/-- a 'code' word, met by the world's own term for the bytes: nothing is compared byte by byte -/
theorem code_word {y : MethodName} {bytes : ByteArray} {mx : Nat} {rt : Option FieldType} {a : Array Value} {s : State} {m : MethodId} {meth : Method} {c : Code} (h1 : s.methodNamed? y = some m) (h2 : s.vm.method? m = some meth) (h3 : meth.code = some c) (h4 : c.code = bytes)
    (h5 : (c.maxLocals == mx && c.exceptionTable.isEmpty && decide (c.maxStack ≤ mostOperands) && decide (meth.sig.returnType = rt) && !meth.locks && decide (parseMethodDescriptor y.desc = some meth.sig)) = true) : (Jvm.Cond.code y bytes mx rt).before a s = true := by
  simp only [Bool.and_eq_true, beq_iff_eq, Bool.not_eq_true', decide_eq_true_eq] at h5
  obtain ⟨⟨⟨⟨⟨g1, g2⟩, g3⟩, g4⟩, g5⟩, g6⟩ := h5
  simp [Cond.before, Cond.holds, Cond.value, h1, h2, h3, h4, g1, g2, g3, g4, g5, g6]
def isCode : Jvm.Cond → Bool
  | .code _ _ _ _ => true
  | _ => false
theorem all_split {L : List Jvm.Cond} {P : Jvm.Cond → Bool} (h1 : L.all (fun c => isCode c || P c) = true) (h2 : ∀ c ∈ L.filter isCode, P c = true) : L.all P = true := by
  refine List.all_eq_true.mpr fun c hc => ?_
  have h := List.all_eq_true.mp h1 c hc
  rcases Bool.eq_false_or_eq_true (isCode c) with hi | hi
  · exact h2 c (List.mem_filter.mpr ⟨hc, hi⟩)
  · simpa [hi] using h
set_option maxRecDepth 65536 in
theorem w_c0 : (Jvm.Cond.code x code maxLocals ret).before args0 about1 = true := code_word (m := ⟨1, 4⟩) (meth := k1m4) (c := k1c4) (by decide +kernel) rfl rfl rfl (by decide +kernel)
set_option maxRecDepth 65536 in
theorem w_c1 : (Jvm.Cond.code ({ cls := "com/example/leeway/leeway/model/ListedTuplesNextTuplePinLaw", name := "size", desc := "(J)I" } : Jvm.MethodName) method_2_code (3 : Nat) (Option.some Jvm.ClassFile.FieldType.int)).before args0 about1 = true := code_word (m := ⟨1, 1⟩) (meth := k1m1) (c := k1c1) (by decide +kernel) rfl rfl rfl (by decide +kernel)
set_option maxRecDepth 65536 in
theorem w_c2 : (Jvm.Cond.code ({ cls := "java/lang/Math", name := "max", desc := "(II)I" } : Jvm.MethodName) jdk_29_method_65_code (2 : Nat) (Option.some Jvm.ClassFile.FieldType.int)).before args0 about1 = true := code_word (m := ⟨2, 1⟩) (meth := k2m1) (c := k2c1) (by decide +kernel) rfl rfl rfl (by decide +kernel)
set_option maxRecDepth 65536 in
theorem w_c3 : (Jvm.Cond.code ({ cls := "com/example/leeway/leeway/model/ListedTuplesNextTuplePinLaw", name := "value", desc := "(JI)I" } : Jvm.MethodName) method_3_code (4 : Nat) (Option.some Jvm.ClassFile.FieldType.int)).before args0 about1 = true := code_word (m := ⟨1, 2⟩) (meth := k1m2) (c := k1c2) (by decide +kernel) rfl rfl rfl (by decide +kernel)
set_option maxRecDepth 65536 in
theorem w_c4 : (Jvm.Cond.code ({ cls := "com/example/leeway/leeway/model/ListedTuples", name := "nextTuple", desc := "([I[I)Z" } : Jvm.MethodName) prog_29_method_21_code (3 : Nat) (Option.some Jvm.ClassFile.FieldType.boolean)).before args0 about1 = true := code_word (m := ⟨4, 0⟩) (meth := k4m0) (c := k4c0) (by decide +kernel) rfl rfl rfl (by decide +kernel)
set_option maxRecDepth 65536 in
theorem w_c5 : (Jvm.Cond.code ({ cls := "com/example/leeway/leeway/model/ListedTuplesNextTuplePinLaw", name := "expected", desc := "(III)I" } : Jvm.MethodName) method_4_code (3 : Nat) (Option.some Jvm.ClassFile.FieldType.int)).before args0 about1 = true := code_word (m := ⟨1, 3⟩) (meth := k1m3) (c := k1c3) (by decide +kernel) rfl rfl rfl (by decide +kernel)
def codes1 : List Jvm.Cond := [Jvm.Cond.code x code maxLocals ret, Jvm.Cond.code ({ cls := "com/example/leeway/leeway/model/ListedTuplesNextTuplePinLaw", name := "size", desc := "(J)I" } : Jvm.MethodName) method_2_code (3 : Nat) (Option.some Jvm.ClassFile.FieldType.int), Jvm.Cond.code ({ cls := "java/lang/Math", name := "max", desc := "(II)I" } : Jvm.MethodName) jdk_29_method_65_code (2 : Nat) (Option.some Jvm.ClassFile.FieldType.int), Jvm.Cond.code ({ cls := "com/example/leeway/leeway/model/ListedTuplesNextTuplePinLaw", name := "value", desc := "(JI)I" } : Jvm.MethodName) method_3_code (4 : Nat) (Option.some Jvm.ClassFile.FieldType.int), Jvm.Cond.code ({ cls := "com/example/leeway/leeway/model/ListedTuples", name := "nextTuple", desc := "([I[I)Z" } : Jvm.MethodName) prog_29_method_21_code (3 : Nat) (Option.some Jvm.ClassFile.FieldType.boolean), Jvm.Cond.code ({ cls := "com/example/leeway/leeway/model/ListedTuplesNextTuplePinLaw", name := "expected", desc := "(III)I" } : Jvm.MethodName) method_4_code (3 : Nat) (Option.some Jvm.ClassFile.FieldType.int)]
set_option maxRecDepth 65536 in
theorem codes_eq : words1.filter isCode = codes1 := rfl
theorem w_codes : ∀ c ∈ words1.filter isCode, c.before args0 about1 = true := by
  rw [codes_eq]
  intro c hc
  simp only [codes1, List.mem_cons, List.not_mem_nil, or_false] at hc
  rcases hc with rfl | rfl | rfl | rfl | rfl | rfl
  · exact w_c0
  · exact w_c1
  · exact w_c2
  · exact w_c3
  · exact w_c4
  · exact w_c5
set_option maxRecDepth 65536 in
theorem w_t1 : words1.all (fun c => isCode c || c.before args0 about1) = true := by decide +kernel
theorem w_tables : (allAtoms (Jvm.Cond.code x code maxLocals ret :: tables_1)).before args0 about1 = true := by
  rw [allAtoms_all]
  show words1.all (fun c => c.before args0 about1) = true
  refine all_split ?_ w_codes
  rw [w_t1]
set_option maxRecDepth 65536 in
theorem w_case : (Jvm.Cond.and given_1 narrow_1).before args0 about1 = true := by decide +kernel
theorem w_applies : (headSpec (Jvm.Cond.code x code maxLocals ret :: tables_1) room_1).applies x e0.platform about1 = true :=
  (Spec.applies_iff w_frames).mpr ⟨w_running, w_runnable, w_alone, w_named, w_hears, w_ripe, w_room, w_tables⟩
theorem atStart : AtStart classFile x code maxLocals ret World_1 tables_1 room_1 Calls_1 rest_1 Pre_1 launch0 p0 e0 about1 theMethod args0 below0 :=
  ⟨lists_1, trivial, launch0.admits_env _ _ _, launch0.least_env, fairChoices_fair.cas, fairChoices_fair.clock, w_frames, w_args, w_heap, w_applies, trivial, trivial, w_case⟩
end start1
theorem witness_1 : WitnessClaimed_1 := ⟨start1.p0, start1.e0, start1.about1, start1.theMethod, start1.args0, start1.below0, start1.atStart⟩
end Jvm.Pilot.@@N@@
