import JvmDerived
import JvmDerived.Pilot.@@N@@Statement
import JvmDerived.Pilot.@@N@@Code
set_option linter.unusedVariables false
set_option linter.unusedSimpArgs false
namespace Jvm.Pilot.@@N@@
open Jvm Jvm.ClassFile Sem Op Lib Jvm.Free Jvm.Stand Jvm.LawKit Jvm.RoadKit Bundle Jvm.Pilot.@@N@@.Jvm.D
section OwnKit
variable {p : Program} {l : Launch} {e : Env} {R : Room} {s : State} {m : MethodId} {args : Array Value} {below : List Frame} {meth : Method} {c : Code} {T : State} {locs : List Loc} {cells slots kc ks : Nat} {Q : Option Value → Heap → List Loc → Prop} {P : Outcome → State → Prop} {pc q : Nat} {Ls L' : Array Slot} {st : List Value}
def own_Go (p : Program) (e : Env) (below : List Frame) (P : Outcome → State → Prop) (U : State) : Prop :=
  ∃ s₂ o, Steps p.tables e below U s₂ ∧ s₂.status = .running ∧ Ended s₂ below o ∧ P o s₂
def own_E (s : State) (kc ks : Nat) (Q : Option Value → Heap → List Loc → Prop) (o : Outcome) (t : State) : Prop := ∃ v L, o = .returned v ∧ Q v t.heap L ∧ FrameEnd s o t L kc ks
theorem own_via {U V : State} (h : ∀ t, Steps p.tables e below V t → Steps p.tables e below U t) (K : own_Go p e below P V) : own_Go p e below P U := by
  obtain ⟨a, b, h1, r⟩ := K; exact ⟨a, b, h _ h1, r⟩
theorem own_mono {P' : Outcome → State → Prop} {U : State} (h : ∀ o t, P' o t → P o t) (K : own_Go p e below P' U) : own_Go p e below P U := by
  obtain ⟨a, b, h1, h2, h3, h4⟩ := K; exact ⟨a, b, h1, h2, h3, h _ _ h4⟩
def own_P (w : Value) (h : Heap) (v : Option Value) (h' : Heap) (L : List Loc) : Prop := v = some w ∧ h' = h ∧ L = []
theorem own_iadd (X : Stand p l e R s m args below meth c T locs cells slots) (hx : p.tables.exec = Jvm.exec) {x y : Int32} (hd : decode c.code pc = .ok (.iadd, 1)) (hq : pc + 1 = q)  (K : own_Go p e below P (T.setTop (mkF m q Ls (.int (x + y) :: st)))) : own_Go p e below P (T.setTop (mkF m pc Ls (.int y :: .int x :: st))) := by
  subst hq; exact own_via (fun t => XS.iadd X.here hx rfl hd rfl) K
theorem own_isub (X : Stand p l e R s m args below meth c T locs cells slots) (hx : p.tables.exec = Jvm.exec) {x y : Int32} (hd : decode c.code pc = .ok (.isub, 1)) (hq : pc + 1 = q)  (K : own_Go p e below P (T.setTop (mkF m q Ls (.int (x - y) :: st)))) : own_Go p e below P (T.setTop (mkF m pc Ls (.int y :: .int x :: st))) := by
  subst hq; exact own_via (fun t => XS.isub X.here hx rfl hd rfl) K
theorem own_imul (X : Stand p l e R s m args below meth c T locs cells slots) (hx : p.tables.exec = Jvm.exec) {x y : Int32} (hd : decode c.code pc = .ok (.imul, 1)) (hq : pc + 1 = q)  (K : own_Go p e below P (T.setTop (mkF m q Ls (.int (x * y) :: st)))) : own_Go p e below P (T.setTop (mkF m pc Ls (.int y :: .int x :: st))) := by
  subst hq; exact own_via (fun t => XS.imul X.here hx rfl hd rfl) K
theorem own_iand (X : Stand p l e R s m args below meth c T locs cells slots) (hx : p.tables.exec = Jvm.exec) {x y : Int32} (hd : decode c.code pc = .ok (.iand, 1)) (hq : pc + 1 = q)  (K : own_Go p e below P (T.setTop (mkF m q Ls (.int (x &&& y) :: st)))) : own_Go p e below P (T.setTop (mkF m pc Ls (.int y :: .int x :: st))) := by
  subst hq; exact own_via (fun t => XS.iand X.here hx rfl hd rfl) K
theorem own_ixor (X : Stand p l e R s m args below meth c T locs cells slots) (hx : p.tables.exec = Jvm.exec) {x y : Int32} (hd : decode c.code pc = .ok (.ixor, 1)) (hq : pc + 1 = q)  (K : own_Go p e below P (T.setTop (mkF m q Ls (.int (x ^^^ y) :: st)))) : own_Go p e below P (T.setTop (mkF m pc Ls (.int y :: .int x :: st))) := by
  subst hq; exact own_via (fun t => XT.ixor X.here hx rfl hd rfl) K
theorem own_ior (X : Stand p l e R s m args below meth c T locs cells slots) (hx : p.tables.exec = Jvm.exec) {x y : Int32} (hd : decode c.code pc = .ok (.ior, 1)) (hq : pc + 1 = q)  (K : own_Go p e below P (T.setTop (mkF m q Ls (.int (x ||| y) :: st)))) : own_Go p e below P (T.setTop (mkF m pc Ls (.int y :: .int x :: st))) := by
  subst hq; exact own_via (fun t => XT.ior X.here hx rfl hd rfl) K
theorem own_ishl (X : Stand p l e R s m args below meth c T locs cells slots) (hx : p.tables.exec = Jvm.exec) {x y : Int32} (hd : decode c.code pc = .ok (.ishl, 1)) (hq : pc + 1 = q)  (K : own_Go p e below P (T.setTop (mkF m q Ls (.int (x <<< (y &&& 31)) :: st)))) : own_Go p e below P (T.setTop (mkF m pc Ls (.int y :: .int x :: st))) := by
  subst hq; exact own_via (fun t => XT.ishl X.here hx rfl hd rfl) K
theorem own_ishr (X : Stand p l e R s m args below meth c T locs cells slots) (hx : p.tables.exec = Jvm.exec) {x y : Int32} (hd : decode c.code pc = .ok (.ishr, 1)) (hq : pc + 1 = q)  (K : own_Go p e below P (T.setTop (mkF m q Ls (.int (x >>> (y &&& 31)) :: st)))) : own_Go p e below P (T.setTop (mkF m pc Ls (.int y :: .int x :: st))) := by
  subst hq; exact own_via (fun t => XT.ishr X.here hx rfl hd rfl) K
theorem own_iushr (X : Stand p l e R s m args below meth c T locs cells slots) (hx : p.tables.exec = Jvm.exec) {x y : Int32} (hd : decode c.code pc = .ok (.iushr, 1)) (hq : pc + 1 = q)  (K : own_Go p e below P (T.setTop (mkF m q Ls (.int (XT.ushr x y) :: st)))) : own_Go p e below P (T.setTop (mkF m pc Ls (.int y :: .int x :: st))) := by
  subst hq; exact own_via (fun t => XT.iushr X.here hx rfl hd rfl) K
theorem own_idiv (X : Stand p l e R s m args below meth c T locs cells slots) (hx : p.tables.exec = Jvm.exec) {x y : Int32} (hd : decode c.code pc = .ok (.idiv, 1)) (hq : pc + 1 = q) (hy : y ≠ 0) (K : own_Go p e below P (T.setTop (mkF m q Ls (.int (x / y) :: st)))) : own_Go p e below P (T.setTop (mkF m pc Ls (.int y :: .int x :: st))) := by
  subst hq; exact own_via (fun t => XS.idiv X.here hx rfl hd rfl hy) K
theorem own_irem (X : Stand p l e R s m args below meth c T locs cells slots) (hx : p.tables.exec = Jvm.exec) {x y : Int32} (hd : decode c.code pc = .ok (.irem, 1)) (hq : pc + 1 = q) (hy : y ≠ 0) (K : own_Go p e below P (T.setTop (mkF m q Ls (.int (x % y) :: st)))) : own_Go p e below P (T.setTop (mkF m pc Ls (.int y :: .int x :: st))) := by
  subst hq; exact own_via (fun t => iremM X hx rfl hd rfl hy) K
theorem own_ineg (X : Stand p l e R s m args below meth c T locs cells slots) (hx : p.tables.exec = Jvm.exec) {x : Int32} (hd : decode c.code pc = .ok (.ineg, 1)) (hq : pc + 1 = q)  (K : own_Go p e below P (T.setTop (mkF m q Ls (.int (-x) :: st)))) : own_Go p e below P (T.setTop (mkF m pc Ls (.int x :: st))) := by
  subst hq; exact own_via (fun t => XS.ineg X.here hx rfl hd rfl) K
theorem own_ladd (X : Stand p l e R s m args below meth c T locs cells slots) (hx : p.tables.exec = Jvm.exec) {x y : Int64} (hd : decode c.code pc = .ok (.ladd, 1)) (hq : pc + 1 = q)  (K : own_Go p e below P (T.setTop (mkF m q Ls (.long (x + y) :: st)))) : own_Go p e below P (T.setTop (mkF m pc Ls (.long y :: .long x :: st))) := by
  subst hq; exact own_via (fun t => XT.ladd X.here hx rfl hd rfl) K
theorem own_lsub (X : Stand p l e R s m args below meth c T locs cells slots) (hx : p.tables.exec = Jvm.exec) {x y : Int64} (hd : decode c.code pc = .ok (.lsub, 1)) (hq : pc + 1 = q)  (K : own_Go p e below P (T.setTop (mkF m q Ls (.long (x - y) :: st)))) : own_Go p e below P (T.setTop (mkF m pc Ls (.long y :: .long x :: st))) := by
  subst hq; exact own_via (fun t => XT.lsub X.here hx rfl hd rfl) K
theorem own_lmul (X : Stand p l e R s m args below meth c T locs cells slots) (hx : p.tables.exec = Jvm.exec) {x y : Int64} (hd : decode c.code pc = .ok (.lmul, 1)) (hq : pc + 1 = q)  (K : own_Go p e below P (T.setTop (mkF m q Ls (.long (x * y) :: st)))) : own_Go p e below P (T.setTop (mkF m pc Ls (.long y :: .long x :: st))) := by
  subst hq; exact own_via (fun t => XT.lmul X.here hx rfl hd rfl) K
theorem own_land (X : Stand p l e R s m args below meth c T locs cells slots) (hx : p.tables.exec = Jvm.exec) {x y : Int64} (hd : decode c.code pc = .ok (.land, 1)) (hq : pc + 1 = q)  (K : own_Go p e below P (T.setTop (mkF m q Ls (.long (x &&& y) :: st)))) : own_Go p e below P (T.setTop (mkF m pc Ls (.long y :: .long x :: st))) := by
  subst hq; exact own_via (fun t => XT.land X.here hx rfl hd rfl) K
theorem own_lor (X : Stand p l e R s m args below meth c T locs cells slots) (hx : p.tables.exec = Jvm.exec) {x y : Int64} (hd : decode c.code pc = .ok (.lor, 1)) (hq : pc + 1 = q)  (K : own_Go p e below P (T.setTop (mkF m q Ls (.long (x ||| y) :: st)))) : own_Go p e below P (T.setTop (mkF m pc Ls (.long y :: .long x :: st))) := by
  subst hq; exact own_via (fun t => XT.lor X.here hx rfl hd rfl) K
theorem own_lxor (X : Stand p l e R s m args below meth c T locs cells slots) (hx : p.tables.exec = Jvm.exec) {x y : Int64} (hd : decode c.code pc = .ok (.lxor, 1)) (hq : pc + 1 = q)  (K : own_Go p e below P (T.setTop (mkF m q Ls (.long (x ^^^ y) :: st)))) : own_Go p e below P (T.setTop (mkF m pc Ls (.long y :: .long x :: st))) := by
  subst hq; exact own_via (fun t => XT.lxor X.here hx rfl hd rfl) K
theorem own_ldiv (X : Stand p l e R s m args below meth c T locs cells slots) (hx : p.tables.exec = Jvm.exec) {x y : Int64} (hd : decode c.code pc = .ok (.ldiv, 1)) (hq : pc + 1 = q) (hy : y ≠ 0) (K : own_Go p e below P (T.setTop (mkF m q Ls (.long (x / y) :: st)))) : own_Go p e below P (T.setTop (mkF m pc Ls (.long y :: .long x :: st))) := by
  subst hq; exact own_via (fun t => XT.ldiv X.here hx rfl hd rfl hy) K
theorem own_lshl (X : Stand p l e R s m args below meth c T locs cells slots) (hx : p.tables.exec = Jvm.exec) {x : Int64} {y : Int32} (hd : decode c.code pc = .ok (.lshl, 1)) (hq : pc + 1 = q)  (K : own_Go p e below P (T.setTop (mkF m q Ls (.long (x <<< (y.toInt64 &&& 63)) :: st)))) : own_Go p e below P (T.setTop (mkF m pc Ls (.int y :: .long x :: st))) := by
  subst hq; exact own_via (fun t => XT.lshl X.here hx rfl hd rfl) K
theorem own_lshr (X : Stand p l e R s m args below meth c T locs cells slots) (hx : p.tables.exec = Jvm.exec) {x : Int64} {y : Int32} (hd : decode c.code pc = .ok (.lshr, 1)) (hq : pc + 1 = q)  (K : own_Go p e below P (T.setTop (mkF m q Ls (.long (x >>> (y.toInt64 &&& 63)) :: st)))) : own_Go p e below P (T.setTop (mkF m pc Ls (.int y :: .long x :: st))) := by
  subst hq; exact own_via (fun t => XT.lshr X.here hx rfl hd rfl) K
theorem own_lushr (X : Stand p l e R s m args below meth c T locs cells slots) (hx : p.tables.exec = Jvm.exec) {x : Int64} {y : Int32} (hd : decode c.code pc = .ok (.lushr, 1)) (hq : pc + 1 = q)  (K : own_Go p e below P (T.setTop (mkF m q Ls (.long (XT.ushrL x y) :: st)))) : own_Go p e below P (T.setTop (mkF m pc Ls (.int y :: .long x :: st))) := by
  subst hq; exact own_via (fun t => XT.lushr X.here hx rfl hd rfl) K
theorem own_i2l (X : Stand p l e R s m args below meth c T locs cells slots) (hx : p.tables.exec = Jvm.exec) {x : Int32} (hd : decode c.code pc = .ok (.i2l, 1)) (hq : pc + 1 = q)  (K : own_Go p e below P (T.setTop (mkF m q Ls (.long x.toInt64 :: st)))) : own_Go p e below P (T.setTop (mkF m pc Ls (.int x :: st))) := by
  subst hq; exact own_via (fun t => XT.i2l X.here hx rfl hd rfl) K
theorem own_l2i (X : Stand p l e R s m args below meth c T locs cells slots) (hx : p.tables.exec = Jvm.exec) {x : Int64} (hd : decode c.code pc = .ok (.l2i, 1)) (hq : pc + 1 = q)  (K : own_Go p e below P (T.setTop (mkF m q Ls (.int x.toInt32 :: st)))) : own_Go p e below P (T.setTop (mkF m pc Ls (.long x :: st))) := by
  subst hq; exact own_via (fun t => XT.l2i X.here hx rfl hd rfl) K
theorem own_i2c (X : Stand p l e R s m args below meth c T locs cells slots) (hx : p.tables.exec = Jvm.exec) {x : Int32} (hd : decode c.code pc = .ok (.i2c, 1)) (hq : pc + 1 = q)  (K : own_Go p e below P (T.setTop (mkF m q Ls (.int x.toUInt32.toUInt16.toUInt32.toInt32 :: st)))) : own_Go p e below P (T.setTop (mkF m pc Ls (.int x :: st))) := by
  subst hq; exact own_via (fun t => XT.i2c X.here hx rfl hd rfl) K
theorem own_i2b (X : Stand p l e R s m args below meth c T locs cells slots) (hx : p.tables.exec = Jvm.exec) {x : Int32} (hd : decode c.code pc = .ok (.i2b, 1)) (hq : pc + 1 = q)  (K : own_Go p e below P (T.setTop (mkF m q Ls (.int x.toInt8.toInt32 :: st)))) : own_Go p e below P (T.setTop (mkF m pc Ls (.int x :: st))) := by
  subst hq; exact own_via (fun t => XT.i2b X.here hx rfl hd rfl) K
theorem own_lcmp (X : Stand p l e R s m args below meth c T locs cells slots) (hx : p.tables.exec = Jvm.exec) {x y : Int64} (hd : decode c.code pc = .ok (.lcmp, 1)) (hq : pc + 1 = q)  (K : own_Go p e below P (T.setTop (mkF m q Ls (.int (XT.cmpL x y) :: st)))) : own_Go p e below P (T.setTop (mkF m pc Ls (.long y :: .long x :: st))) := by
  subst hq; exact own_via (fun t => XT.lcmp X.here hx rfl hd rfl) K
theorem own_iconst (X : Stand p l e R s m args below meth c T locs cells slots) (hx : p.tables.exec = Jvm.exec) {i : Int} (v : Int32) (hd : decode c.code pc = .ok (.iconst i, 1)) (hq : pc + 1 = q) (hv : Int32.ofInt i = v) (K : own_Go p e below P (T.setTop (mkF m q Ls (.int v :: st)))) : own_Go p e below P (T.setTop (mkF m pc Ls st)) := by
  subst hq; exact own_via (fun t => XT.iconstV (v := v) X.here hx rfl hd hv) K
theorem own_bipush (X : Stand p l e R s m args below meth c T locs cells slots) (hx : p.tables.exec = Jvm.exec) {i : Int} (v : Int32) (hd : decode c.code pc = .ok (.bipush i, 2)) (hq : pc + 2 = q) (hv : (Int8.ofInt i).toInt32 = v) (K : own_Go p e below P (T.setTop (mkF m q Ls (.int v :: st)))) : own_Go p e below P (T.setTop (mkF m pc Ls st)) := by
  subst hq; exact own_via (fun t => XT.bipushV (v := v) X.here hx rfl hd hv) K
theorem own_sipush (X : Stand p l e R s m args below meth c T locs cells slots) (hx : p.tables.exec = Jvm.exec) {i : Int} (v : Int32) (hd : decode c.code pc = .ok (.sipush i, 3)) (hq : pc + 3 = q) (hv : (Int16.ofInt i).toInt32 = v) (K : own_Go p e below P (T.setTop (mkF m q Ls (.int v :: st)))) : own_Go p e below P (T.setTop (mkF m pc Ls st)) := by
  subst hq; exact own_via (fun t => XT.sipushV (v := v) X.here hx rfl hd hv) K
theorem own_lconst (X : Stand p l e R s m args below meth c T locs cells slots) (hx : p.tables.exec = Jvm.exec) {i : Fin 2} (v : Int64) (hd : decode c.code pc = .ok (.lconst i, 1)) (hq : pc + 1 = q) (hv : Int64.ofNat i = v) (K : own_Go p e below P (T.setTop (mkF m q Ls (.long v :: st)))) : own_Go p e below P (T.setTop (mkF m pc Ls st)) := by
  subst hq; exact own_via (fun t => XT.lconstV (v := v) X.here hx rfl hd hv) K
theorem own_aconstNull (X : Stand p l e R s m args below meth c T locs cells slots) (hx : p.tables.exec = Jvm.exec)  (hd : decode c.code pc = .ok (.aconst_null, 1)) (hq : pc + 1 = q)  (K : own_Go p e below P (T.setTop (mkF m q Ls (.null :: st)))) : own_Go p e below P (T.setTop (mkF m pc Ls st)) := by
  subst hq; exact own_via (fun t => XS.aconstNull X.here hx rfl hd ) K
theorem own_iloadN (X : Stand p l e R s m args below meth c T locs cells slots) (hx : p.tables.exec = Jvm.exec) {k : Fin 4} {v : Int32} (hd : decode c.code pc = .ok (.iload_n k, 1)) (hq : pc + 1 = q) (hl : Ls[k.val]? = some (.val (.int v))) (K : own_Go p e below P (T.setTop (mkF m q Ls (.int v :: st)))) : own_Go p e below P (T.setTop (mkF m pc Ls st)) := by
  subst hq; exact own_via (fun t => XS.iloadN X.here hx rfl hd hl) K
theorem own_iload (X : Stand p l e R s m args below meth c T locs cells slots) (hx : p.tables.exec = Jvm.exec) {k : Nat} {v : Int32} (hd : decode c.code pc = .ok (.iload k, 2)) (hq : pc + 2 = q) (hl : Ls[k]? = some (.val (.int v))) (K : own_Go p e below P (T.setTop (mkF m q Ls (.int v :: st)))) : own_Go p e below P (T.setTop (mkF m pc Ls st)) := by
  subst hq; exact own_via (fun t => XS.iload X.here hx rfl hd hl) K
theorem own_lloadN (X : Stand p l e R s m args below meth c T locs cells slots) (hx : p.tables.exec = Jvm.exec) {k : Fin 4} {v : Int64} (hd : decode c.code pc = .ok (.lload_n k, 1)) (hq : pc + 1 = q) (hl : Ls[k.val]? = some (.val (.long v))) (K : own_Go p e below P (T.setTop (mkF m q Ls (.long v :: st)))) : own_Go p e below P (T.setTop (mkF m pc Ls st)) := by
  subst hq; exact own_via (fun t => XT.lloadN X.here hx rfl hd hl) K
theorem own_lload (X : Stand p l e R s m args below meth c T locs cells slots) (hx : p.tables.exec = Jvm.exec) {k : Nat} {v : Int64} (hd : decode c.code pc = .ok (.lload k, 2)) (hq : pc + 2 = q) (hl : Ls[k]? = some (.val (.long v))) (K : own_Go p e below P (T.setTop (mkF m q Ls (.long v :: st)))) : own_Go p e below P (T.setTop (mkF m pc Ls st)) := by
  subst hq; exact own_via (fun t => XT.lload X.here hx rfl hd hl) K
theorem own_aloadN (X : Stand p l e R s m args below meth c T locs cells slots) (hx : p.tables.exec = Jvm.exec) {k : Fin 4} {v : Value} (hd : decode c.code pc = .ok (.aload_n k, 1)) (hq : pc + 1 = q) (hl : Ls[k.val]? = some (.val v)) (hv : v.isRef = true) (K : own_Go p e below P (T.setTop (mkF m q Ls (v :: st)))) : own_Go p e below P (T.setTop (mkF m pc Ls st)) := by
  subst hq; exact own_via (fun t => XS.aloadN X.here hx rfl hd hl hv) K
theorem own_aload (X : Stand p l e R s m args below meth c T locs cells slots) (hx : p.tables.exec = Jvm.exec) {k : Nat} {v : Value} (hd : decode c.code pc = .ok (.aload k, 2)) (hq : pc + 2 = q) (hl : Ls[k]? = some (.val v)) (hv : v.isRef = true) (K : own_Go p e below P (T.setTop (mkF m q Ls (v :: st)))) : own_Go p e below P (T.setTop (mkF m pc Ls st)) := by
  subst hq; exact own_via (fun t => XS.aload X.here hx rfl hd hl hv) K
theorem own_istoreN (X : Stand p l e R s m args below meth c T locs cells slots) (hx : p.tables.exec = Jvm.exec) {k : Fin 4} {v : Int32} (hd : decode c.code pc = .ok (.istore_n k, 1)) (hq : pc + 1 = q) (hl : storeLocals Ls k.val (.int v) = some L') (K : own_Go p e below P (T.setTop (mkF m q L' st))) : own_Go p e below P (T.setTop (mkF m pc Ls (.int v :: st))) := by
  subst hq; exact own_via (fun t => XS.istoreN X.here hx rfl hd rfl hl) K
theorem own_istore (X : Stand p l e R s m args below meth c T locs cells slots) (hx : p.tables.exec = Jvm.exec) {k : Nat} {v : Int32} (hd : decode c.code pc = .ok (.istore k, 2)) (hq : pc + 2 = q) (hl : storeLocals Ls k (.int v) = some L') (K : own_Go p e below P (T.setTop (mkF m q L' st))) : own_Go p e below P (T.setTop (mkF m pc Ls (.int v :: st))) := by
  subst hq; exact own_via (fun t => XS.istore X.here hx rfl hd rfl hl) K
theorem own_lstoreN (X : Stand p l e R s m args below meth c T locs cells slots) (hx : p.tables.exec = Jvm.exec) {k : Fin 4} {v : Int64} (hd : decode c.code pc = .ok (.lstore_n k, 1)) (hq : pc + 1 = q) (hl : storeLocals Ls k.val (.long v) = some L') (K : own_Go p e below P (T.setTop (mkF m q L' st))) : own_Go p e below P (T.setTop (mkF m pc Ls (.long v :: st))) := by
  subst hq; exact own_via (fun t => XT.lstoreN X.here hx rfl hd rfl hl) K
theorem own_lstore (X : Stand p l e R s m args below meth c T locs cells slots) (hx : p.tables.exec = Jvm.exec) {k : Nat} {v : Int64} (hd : decode c.code pc = .ok (.lstore k, 2)) (hq : pc + 2 = q) (hl : storeLocals Ls k (.long v) = some L') (K : own_Go p e below P (T.setTop (mkF m q L' st))) : own_Go p e below P (T.setTop (mkF m pc Ls (.long v :: st))) := by
  subst hq; exact own_via (fun t => XT.lstore X.here hx rfl hd rfl hl) K
theorem own_astoreN (X : Stand p l e R s m args below meth c T locs cells slots) (hx : p.tables.exec = Jvm.exec) {k : Fin 4} {v : Value} (hd : decode c.code pc = .ok (.astore_n k, 1)) (hq : pc + 1 = q) (hv : v.isRef = true) (hl : storeLocals Ls k.val v = some L') (K : own_Go p e below P (T.setTop (mkF m q L' st))) : own_Go p e below P (T.setTop (mkF m pc Ls (v :: st))) := by
  subst hq; exact own_via (fun t => XS.astoreN X.here hx rfl hd rfl hv hl) K
theorem own_astore (X : Stand p l e R s m args below meth c T locs cells slots) (hx : p.tables.exec = Jvm.exec) {k : Nat} {v : Value} (hd : decode c.code pc = .ok (.astore k, 2)) (hq : pc + 2 = q) (hv : v.isRef = true) (hl : storeLocals Ls k v = some L') (K : own_Go p e below P (T.setTop (mkF m q L' st))) : own_Go p e below P (T.setTop (mkF m pc Ls (v :: st))) := by
  subst hq; exact own_via (fun t => XS.astore X.here hx rfl hd rfl hv hl) K
theorem own_iinc (X : Stand p l e R s m args below meth c T locs cells slots) (hx : p.tables.exec = Jvm.exec) {k : Nat} {i : Int} {x : Int32} (v : Int32) (hd : decode c.code pc = .ok (.iinc k i, 3)) (hq : pc + 3 = q) (hv : Int32.ofInt i = v) (hl : Ls[k]? = some (.val (.int x))) (hl' : storeLocals Ls k (.int (x + v)) = some L') (K : own_Go p e below P (T.setTop (mkF m q L' st))) : own_Go p e below P (T.setTop (mkF m pc Ls st)) := by
  subst hq; exact own_via (fun t => XT.iincV (v := v) X.here hx rfl hd hv hl hl') K
theorem own_dup (X : Stand p l e R s m args below meth c T locs cells slots) (hx : p.tables.exec = Jvm.exec) {v : Value} (hd : decode c.code pc = .ok (.dup, 1)) (hq : pc + 1 = q) (hc : v.category = 1) (K : own_Go p e below P (T.setTop (mkF m q Ls (v :: v :: st)))) : own_Go p e below P (T.setTop (mkF m pc Ls (v :: st))) := by
  subst hq; exact own_via (fun t => XS.dup X.here hx rfl hd rfl hc) K
theorem own_pop (X : Stand p l e R s m args below meth c T locs cells slots) (hx : p.tables.exec = Jvm.exec) {v : Value} (hd : decode c.code pc = .ok (.pop, 1)) (hq : pc + 1 = q) (hc : v.category = 1) (K : own_Go p e below P (T.setTop (mkF m q Ls st))) : own_Go p e below P (T.setTop (mkF m pc Ls (v :: st))) := by
  subst hq; exact own_via (fun t => XT.pop X.here hx rfl hd rfl hc) K
theorem own_dupX1 (X : Stand p l e R s m args below meth c T locs cells slots) (hx : p.tables.exec = Jvm.exec) {v w : Value} (hd : decode c.code pc = .ok (.dup_x1, 1)) (hq : pc + 1 = q) (hc : v.category = 1) (hc' : w.category = 1) (K : own_Go p e below P (T.setTop (mkF m q Ls (v :: w :: v :: st)))) : own_Go p e below P (T.setTop (mkF m pc Ls (v :: w :: st))) := by
  subst hq; exact own_via (fun t => XT.dupX1 X.here hx rfl hd rfl hc hc') K
theorem own_dup2 (X : Stand p l e R s m args below meth c T locs cells slots) (hx : p.tables.exec = Jvm.exec) {v w : Value} (hd : decode c.code pc = .ok (.dup2, 1)) (hq : pc + 1 = q) (hc : v.category = 1) (hc' : w.category = 1) (K : own_Go p e below P (T.setTop (mkF m q Ls (v :: w :: v :: w :: st)))) : own_Go p e below P (T.setTop (mkF m pc Ls (v :: w :: st))) := by
  subst hq; exact own_via (fun t => XT.dup2 X.here hx rfl hd rfl hc hc') K
theorem own_goto (X : Stand p l e R s m args below meth c T locs cells slots) (hx : p.tables.exec = Jvm.exec) {o : Int} (hd : decode c.code pc = .ok (.goto o, 3)) (ho : 0 ≤ (pc : Int) + o) (hp : ((pc : Int) + o).toNat = q) (K : own_Go p e below P (T.setTop (mkF m q Ls st))) : own_Go p e below P (T.setTop (mkF m pc Ls st)) := by
  exact own_via (fun t => XS.goto X.here hx rfl (pc0 := pc) (pc' := q) rfl hd ho hp) K
theorem own_ldc (X : Stand p l e R s m args below meth c T locs cells slots) (hx : p.tables.exec = Jvm.exec) {Z : State} {a0 : Array Value} (hZ : Z.Warmed39 s.vm) {own : String} {i : Nat} {v : Int32} (hown : s.vm.findClass own = some m.cls) (w : (Cond.constant own i v).before a0 Z = true) (hd : decode c.code pc = .ok (.ldc i, 2)) (hq : pc + 2 = q) (K : own_Go p e below P (T.setTop (mkF m q Ls (.int v :: st)))) : own_Go p e below P (T.setTop (mkF m pc Ls st)) := by
  subst hq; exact own_via (fun t => X.ldcI hx hown (mv hZ w) rfl hd) K
theorem own_ldcW (X : Stand p l e R s m args below meth c T locs cells slots) (hx : p.tables.exec = Jvm.exec) {Z : State} {a0 : Array Value} (hZ : Z.Warmed39 s.vm) {own : String} {i : Nat} {v : Int32} (hown : s.vm.findClass own = some m.cls) (w : (Cond.constant own i v).before a0 Z = true) (hd : decode c.code pc = .ok (.ldc_w i, 3)) (hq : pc + 3 = q) (K : own_Go p e below P (T.setTop (mkF m q Ls (.int v :: st)))) : own_Go p e below P (T.setTop (mkF m pc Ls st)) := by
  subst hq; exact own_via (fun t => X.ldcWI hx hown (mv hZ w) rfl hd) K
theorem own_ldc2 (X : Stand p l e R s m args below meth c T locs cells slots) (hx : p.tables.exec = Jvm.exec) {Z : State} {a0 : Array Value} (hZ : Z.Warmed39 s.vm) {own : String} {i : Nat} {v : Int64} (hown : s.vm.findClass own = some m.cls) (w : (Cond.constantLong own i v).before a0 Z = true) (hd : decode c.code pc = .ok (.ldc2_w i, 3)) (hq : pc + 3 = q) (K : own_Go p e below P (T.setTop (mkF m q Ls (.long v :: st)))) : own_Go p e below P (T.setTop (mkF m pc Ls st)) := by
  subst hq; exact own_via (fun t => X.ldc2J hx hown (mv hZ w) rfl hd) K
def own_pos : ClassFile.Cond → Bool | .eq => true | .lt => true | .gt => true | _ => false
def own_base {α : Type} [LT α] : ClassFile.Cond → α → α → Prop | .eq, x, y => x = y | .ne, x, y => x = y | .lt, x, y => x < y | .ge, x, y => x < y | .gt, x, y => y < x | .le, x, y => y < x
theorem own_ii {cd : ClassFile.Cond} {x y : Int32} : (own_base cd x y → if_icmp.holds cd x y = own_pos cd) ∧ (¬ own_base cd x y → if_icmp.holds cd x y = !own_pos cd) := by
  cases cd <;> simp only [own_base, own_pos, Bool.not_true, Bool.not_false]
  · exact ⟨XT.ii_eq_t, XT.ii_eq_f⟩
  · exact ⟨XT.ii_ne_f, XT.ii_ne_t⟩
  · exact ⟨XT.ii_lt_t, XT.ii_lt_f⟩
  · exact ⟨XT.ii_ge_f, XT.ii_ge_t⟩
  · exact ⟨XT.ii_gt_t, XT.ii_gt_f⟩
  · exact ⟨XT.ii_le_f, XT.ii_le_t⟩
theorem own_ll {cd : ClassFile.Cond} {x y : Int64} : (own_base cd x y → ifCond.holds cd (XT.cmpL x y) = own_pos cd) ∧ (¬ own_base cd x y → ifCond.holds cd (XT.cmpL x y) = !own_pos cd) := by
  cases cd <;> simp only [own_base, own_pos, Bool.not_true, Bool.not_false]
  · exact ⟨XT.ll_eq_t, XT.ll_eq_f⟩
  · exact ⟨XT.ll_ne_f, XT.ll_ne_t⟩
  · exact ⟨XT.ll_lt_t, XT.ll_lt_f⟩
  · exact ⟨XT.ll_ge_f, XT.ll_ge_t⟩
  · exact ⟨XT.ll_gt_t, XT.ll_gt_f⟩
  · exact ⟨XT.ll_le_f, XT.ll_le_t⟩
theorem own_icmpP (X : Stand p l e R s m args below meth c T locs cells slots) (hx : p.tables.exec = Jvm.exec) {x y : Int32} {cd : ClassFile.Cond} {o : Int} {pt : Nat} (hd : decode c.code pc = .ok (.if_icmp cd o, 3)) (ho : 0 ≤ (pc : Int) + o) (hp : ((pc : Int) + o).toNat = pt) (hq : pc + 3 = q) (hs : own_pos cd = true) (K1 : own_base cd x y → own_Go p e below P (T.setTop (mkF m pt Ls st))) (K2 : ¬ own_base cd x y → own_Go p e below P (T.setTop (mkF m q Ls st))) : own_Go p e below P (T.setTop (mkF m pc Ls (.int y :: .int x :: st))) := by
  subst hq
  by_cases h : own_base cd x y
  · exact own_via (fun t => XS.icmpYes X.here hx rfl (pc0 := pc) (pc' := pt) rfl hd rfl ((own_ii.1 h).trans hs) ho hp) (K1 h)
  · exact own_via (fun t => XS.icmpNo X.here hx rfl hd rfl ((own_ii.2 h).trans (by rw [hs]; rfl))) (K2 h)
theorem own_icmpM (X : Stand p l e R s m args below meth c T locs cells slots) (hx : p.tables.exec = Jvm.exec) {x y : Int32} {cd : ClassFile.Cond} {o : Int} {pt : Nat} (hd : decode c.code pc = .ok (.if_icmp cd o, 3)) (ho : 0 ≤ (pc : Int) + o) (hp : ((pc : Int) + o).toNat = pt) (hq : pc + 3 = q) (hs : own_pos cd = false) (K1 : ¬ own_base cd x y → own_Go p e below P (T.setTop (mkF m pt Ls st))) (K2 : own_base cd x y → own_Go p e below P (T.setTop (mkF m q Ls st))) : own_Go p e below P (T.setTop (mkF m pc Ls (.int y :: .int x :: st))) := by
  subst hq
  by_cases h : own_base cd x y
  · exact own_via (fun t => XS.icmpNo X.here hx rfl hd rfl ((own_ii.1 h).trans hs)) (K2 h)
  · exact own_via (fun t => XS.icmpYes X.here hx rfl (pc0 := pc) (pc' := pt) rfl hd rfl ((own_ii.2 h).trans (by rw [hs]; rfl)) ho hp) (K1 h)
theorem own_if0P (X : Stand p l e R s m args below meth c T locs cells slots) (hx : p.tables.exec = Jvm.exec) {x : Int32} {cd : ClassFile.Cond} {o : Int} {pt : Nat} (hd : decode c.code pc = .ok (.ifCond cd o, 3)) (ho : 0 ≤ (pc : Int) + o) (hp : ((pc : Int) + o).toNat = pt) (hq : pc + 3 = q) (hs : own_pos cd = true) (K1 : own_base cd x (0 : Int32) → own_Go p e below P (T.setTop (mkF m pt Ls st))) (K2 : ¬ own_base cd x (0 : Int32) → own_Go p e below P (T.setTop (mkF m q Ls st))) : own_Go p e below P (T.setTop (mkF m pc Ls (.int x :: st))) := by
  subst hq
  by_cases h : own_base cd x (0 : Int32)
  · exact own_via (fun t => XS.ifYes X.here hx rfl (pc0 := pc) (pc' := pt) rfl hd rfl ((if0 cd x).trans ((own_ii (y := 0).1 h).trans hs)) ho hp) (K1 h)
  · exact own_via (fun t => XS.ifNo X.here hx rfl hd rfl ((if0 cd x).trans ((own_ii (y := 0).2 h).trans (by rw [hs]; rfl)))) (K2 h)
theorem own_if0M (X : Stand p l e R s m args below meth c T locs cells slots) (hx : p.tables.exec = Jvm.exec) {x : Int32} {cd : ClassFile.Cond} {o : Int} {pt : Nat} (hd : decode c.code pc = .ok (.ifCond cd o, 3)) (ho : 0 ≤ (pc : Int) + o) (hp : ((pc : Int) + o).toNat = pt) (hq : pc + 3 = q) (hs : own_pos cd = false) (K1 : ¬ own_base cd x (0 : Int32) → own_Go p e below P (T.setTop (mkF m pt Ls st))) (K2 : own_base cd x (0 : Int32) → own_Go p e below P (T.setTop (mkF m q Ls st))) : own_Go p e below P (T.setTop (mkF m pc Ls (.int x :: st))) := by
  subst hq
  by_cases h : own_base cd x (0 : Int32)
  · exact own_via (fun t => XS.ifNo X.here hx rfl hd rfl ((if0 cd x).trans ((own_ii (y := 0).1 h).trans hs))) (K2 h)
  · exact own_via (fun t => XS.ifYes X.here hx rfl (pc0 := pc) (pc' := pt) rfl hd rfl ((if0 cd x).trans ((own_ii (y := 0).2 h).trans (by rw [hs]; rfl))) ho hp) (K1 h)
theorem own_ifLP (X : Stand p l e R s m args below meth c T locs cells slots) (hx : p.tables.exec = Jvm.exec) {x y : Int64} {cd : ClassFile.Cond} {o : Int} {pt : Nat} (hd : decode c.code pc = .ok (.ifCond cd o, 3)) (ho : 0 ≤ (pc : Int) + o) (hp : ((pc : Int) + o).toNat = pt) (hq : pc + 3 = q) (hs : own_pos cd = true) (K1 : own_base cd x y → own_Go p e below P (T.setTop (mkF m pt Ls st))) (K2 : ¬ own_base cd x y → own_Go p e below P (T.setTop (mkF m q Ls st))) : own_Go p e below P (T.setTop (mkF m pc Ls (.int (XT.cmpL x y) :: st))) := by
  subst hq
  by_cases h : own_base cd x y
  · exact own_via (fun t => XS.ifYes X.here hx rfl (pc0 := pc) (pc' := pt) rfl hd rfl ((own_ll.1 h).trans hs) ho hp) (K1 h)
  · exact own_via (fun t => XS.ifNo X.here hx rfl hd rfl ((own_ll.2 h).trans (by rw [hs]; rfl))) (K2 h)
theorem own_ifLM (X : Stand p l e R s m args below meth c T locs cells slots) (hx : p.tables.exec = Jvm.exec) {x y : Int64} {cd : ClassFile.Cond} {o : Int} {pt : Nat} (hd : decode c.code pc = .ok (.ifCond cd o, 3)) (ho : 0 ≤ (pc : Int) + o) (hp : ((pc : Int) + o).toNat = pt) (hq : pc + 3 = q) (hs : own_pos cd = false) (K1 : ¬ own_base cd x y → own_Go p e below P (T.setTop (mkF m pt Ls st))) (K2 : own_base cd x y → own_Go p e below P (T.setTop (mkF m q Ls st))) : own_Go p e below P (T.setTop (mkF m pc Ls (.int (XT.cmpL x y) :: st))) := by
  subst hq
  by_cases h : own_base cd x y
  · exact own_via (fun t => XS.ifNo X.here hx rfl hd rfl ((own_ll.1 h).trans hs)) (K2 h)
  · exact own_via (fun t => XS.ifYes X.here hx rfl (pc0 := pc) (pc' := pt) rfl hd rfl ((own_ll.2 h).trans (by rw [hs]; rfl)) ho hp) (K1 h)
theorem own_acmp (X : Stand p l e R s m args below meth c T locs cells slots) (hx : p.tables.exec = Jvm.exec) {cd : ACond} {v w : Value} {o : Int} {same : Bool} (hv : v.isRef = true) (hw : w.isRef = true) (hd : decode c.code pc = .ok (.if_acmp cd o, 3)) (hs : decide (v = w) = same) (ho : 0 ≤ (pc : Int) + o) (hp : q = if acV cd same = true then ((pc : Int) + o).toNat else pc + 3) (K : own_Go p e below P (T.setTop (mkF m q Ls st))) : own_Go p e below P (T.setTop (mkF m pc Ls (w :: v :: st))) := by
  exact own_via (fun t => acmp X hx rfl hv hw (pc0 := pc) rfl hd rfl hs ho hp) K
theorem own_nullY (X : Stand p l e R s m args below meth c T locs cells slots) (hx : p.tables.exec = Jvm.exec) {o : Int} (hd : decode c.code pc = .ok (.ifnull o, 3)) (ho : 0 ≤ (pc : Int) + o) (hp : ((pc : Int) + o).toNat = q) (K : own_Go p e below P (T.setTop (mkF m q Ls st))) : own_Go p e below P (T.setTop (mkF m pc Ls (.null :: st))) := by
  exact own_via (fun t => XS.ifnullYes X.here hx rfl (pc0 := pc) (pc' := q) rfl hd rfl ho hp) K
theorem own_nullN (X : Stand p l e R s m args below meth c T locs cells slots) (hx : p.tables.exec = Jvm.exec) {o : Int} {a : Addr} (hd : decode c.code pc = .ok (.ifnull o, 3)) (hq : pc + 3 = q) (K : own_Go p e below P (T.setTop (mkF m q Ls st))) : own_Go p e below P (T.setTop (mkF m pc Ls (.ref a :: st))) := by
  subst hq; exact own_via (fun t => XS.ifnullNo X.here hx rfl hd rfl) K
theorem own_nonnullY (X : Stand p l e R s m args below meth c T locs cells slots) (hx : p.tables.exec = Jvm.exec) {o : Int} {a : Addr} (hd : decode c.code pc = .ok (.ifnonnull o, 3)) (ho : 0 ≤ (pc : Int) + o) (hp : ((pc : Int) + o).toNat = q) (K : own_Go p e below P (T.setTop (mkF m q Ls st))) : own_Go p e below P (T.setTop (mkF m pc Ls (.ref a :: st))) := by
  exact own_via (fun t => XT.ifnonnullYes X.here hx rfl (pc0 := pc) (pc' := q) rfl hd rfl ho hp) K
theorem own_nonnullN (X : Stand p l e R s m args below meth c T locs cells slots) (hx : p.tables.exec = Jvm.exec) {o : Int} (hd : decode c.code pc = .ok (.ifnonnull o, 3)) (hq : pc + 3 = q) (K : own_Go p e below P (T.setTop (mkF m q Ls st))) : own_Go p e below P (T.setTop (mkF m pc Ls (.null :: st))) := by
  subst hq; exact own_via (fun t => XT.ifnonnullNo X.here hx rfl hd rfl) K
theorem own_retN (X : Stand p l e R s m args below meth c T locs cells slots) (hx : p.tables.exec = Jvm.exec) (hlk : meth.locks = false) {rest : List Value} {z : Int32} {t : FieldType} (ht : t = .boolean ∨ t = .byte ∨ t = .char ∨ t = .short) (hret : meth.sig.returnType = some t) (hd : decode c.code pc = .ok (.ireturn, 1)) (hqq : Q (some (.int (nar t z))) T.heap locs) (hc : cells ≤ kc) (hs : slots ≤ ks)  : own_Go p e below (own_E s kc ks Q) (T.setTop (mkF m pc Ls (.int z :: rest))) := by
  obtain ⟨fs, hr, hrun, hended, hW, hsame⟩ := X.leave (v := (some (.int (nar t z)))) (fun h => by rw [hret] at h; cases h) hlk
  exact ⟨_, _, retN X hx hret ht hd hr, hrun, hended, _, _, rfl, hqq, ⟨_, rfl⟩, hW, hsame.mono hc hs⟩
theorem own_retI (X : Stand p l e R s m args below meth c T locs cells slots) (hx : p.tables.exec = Jvm.exec) (hlk : meth.locks = false) {rest : List Value} {z : Int32} (hret : meth.sig.returnType = some .int) (hd : decode c.code pc = .ok (.ireturn, 1)) (hqq : Q (some (.int z)) T.heap locs) (hc : cells ≤ kc) (hs : slots ≤ ks)  : own_Go p e below (own_E s kc ks Q) (T.setTop (mkF m pc Ls (.int z :: rest))) := by
  obtain ⟨fs, hr, hrun, hended, hW, hsame⟩ := X.leave (v := (some (.int z))) (fun h => by rw [hret] at h; cases h) hlk
  exact ⟨_, _, retOut X hx hret rfl (Or.inl ⟨rfl, Or.inl rfl, z, rfl⟩) hd hr, hrun, hended, _, _, rfl, hqq, ⟨_, rfl⟩, hW, hsame.mono hc hs⟩
theorem own_retJ (X : Stand p l e R s m args below meth c T locs cells slots) (hx : p.tables.exec = Jvm.exec) (hlk : meth.locks = false) {rest : List Value} {z : Int64} (hret : meth.sig.returnType = some .long) (hd : decode c.code pc = .ok (.lreturn, 1)) (hqq : Q (some (.long z)) T.heap locs) (hc : cells ≤ kc) (hs : slots ≤ ks)  : own_Go p e below (own_E s kc ks Q) (T.setTop (mkF m pc Ls (.long z :: rest))) := by
  obtain ⟨fs, hr, hrun, hended, hW, hsame⟩ := X.leave (v := (some (.long z))) (fun h => by rw [hret] at h; cases h) hlk
  exact ⟨_, _, retOut X hx hret rfl (Or.inr (Or.inl ⟨rfl, rfl, z, rfl⟩)) hd hr, hrun, hended, _, _, rfl, hqq, ⟨_, rfl⟩, hW, hsame.mono hc hs⟩
theorem own_retA (X : Stand p l e R s m args below meth c T locs cells slots) (hx : p.tables.exec = Jvm.exec) (hlk : meth.locks = false) {rest : List Value} {w : Value} {t : FieldType} (hw : w.isRef = true) (ht : t.isReference = true) (hn : narrow t w = w) (hret : meth.sig.returnType = some t) (hd : decode c.code pc = .ok (.areturn, 1)) (hqq : Q (some w) T.heap locs) (hc : cells ≤ kc) (hs : slots ≤ ks)  : own_Go p e below (own_E s kc ks Q) (T.setTop (mkF m pc Ls (w :: rest))) := by
  obtain ⟨fs, hr, hrun, hended, hW, hsame⟩ := X.leave (v := (some w)) (fun h => by rw [hret] at h; cases h) hlk
  exact ⟨_, _, retOut X hx hret hn (Or.inr (Or.inr (Or.inr (Or.inr ⟨rfl, ht, hw⟩)))) hd hr, hrun, hended, _, _, rfl, hqq, ⟨_, rfl⟩, hW, hsame.mono hc hs⟩
theorem own_retV (X : Stand p l e R s m args below meth c T locs cells slots) (hx : p.tables.exec = Jvm.exec) (hlk : meth.locks = false) {rest : List Value} (hret : meth.sig.returnType = none) (hd : decode c.code pc = .ok (.return_, 1)) (hqq : Q none T.heap locs) (hc : cells ≤ kc) (hs : slots ≤ ks)  : own_Go p e below (own_E s kc ks Q) (T.setTop (mkF m pc Ls [])) := by
  obtain ⟨fs, hr, hrun, hended, hW, hsame⟩ := X.leave (v := none) (fun _ => rfl) hlk
  exact ⟨_, _, X.returnOut hx hret hd hr, hrun, hended, _, _, rfl, hqq, ⟨_, rfl⟩, hW, hsame.mono hc hs⟩
theorem own_callS (X : Stand p l e R s m args below meth c T locs cells slots) (hx : p.tables.exec = Jvm.exec) {Z : State} {a0 : Array Value} {h : Heap} {own : String} {index : Nat} {y : MethodName} {bytes : ByteArray} {maxL : Nat} {ret : Option FieldType} {rm : Room} {W : Nat} {argsL : List Value} {Qc : Option Value → Heap → List Loc → Prop} {ps : List FieldType} {r : Option FieldType} {st0 : List Value} (hZ : Z.Warmed39 s.vm) (hown : s.vm.findClass own = some m.cls) (w1 : (Cond.methodLink own index y).before a0 Z = true) (w2 : (Cond.static y).before a0 Z = true) (w3 : (Cond.initialized y.cls).before a0 Z = true) (w4 : (Cond.code y bytes maxL ret).before a0 Z = true) (hy : y.cls ≠ "java/lang/invoke/MethodHandle" ∧ y.cls ≠ "java/lang/invoke/VarHandle") (hM : MetFree l y (head1 [Cond.code y bytes maxL ret] rm) (fun aa U => aa = argsL.toArray ∧ Z.Warmed39 U.vm ∧ U.heap = h) (fun _ _ _ _ _ => True) (fun _ U o U' => ∃ v L, o = .returned v ∧ Qc v U'.heap L ∧ FrameEnd U o U' L rm.cells rm.slots)) (hpd : parseMethodDescriptor y.desc = some ⟨ps, r⟩) (hlen : argsL.length = ps.length) (eT : T.heap = h) (hml : Ls.size = c.maxLocals) (hst : st0 = argsL.reverse ++ st) (hW : (st.map fun v => v.category).sum ≤ W) (hf : rm.frames + 1 ≤ R.frames) (hl : W + (maxL + 11) + rm.locals ≤ R.locals) (hc : cells + rm.cells ≤ R.cells) (hs : slots + rm.slots ≤ R.slots) (hd : decode c.code pc = .ok (.invokestatic index, 3)) (hq : pc + 3 = q) (K : ∀ v T' L, Stand p l e R s m args below meth c T' (locs ++ L) (cells + rm.cells) (slots + rm.slots) → Qc v T'.heap L → own_Go p e below P (T'.setTop (mkF m q Ls (v.toList ++ st)))) : own_Go p e below P (T.setTop (mkF m pc Ls st0)) := by
  subst hq hst
  obtain ⟨v, _, ⟨T', L', k', n'⟩, -, X', ⟨Lc, hQ, l', y', z'⟩, st'⟩ := Jvm.LawKit.callS X hx hown (mvT hZ w1) (mvT hZ w2) (mvT hZ w3) (mvT hZ w4) hy (backOf (W := W) hM hZ w4 w3 hf hl) (g := mkF m pc Ls (argsL.reverse ++ st)) rfl hml (argsL := argsL) (rest := st) (lenOf hpd hlen) rfl (by show 2 * 0 + _ ≤ _; omega) hd (fun _ _ => ⟨rfl, eT, hc, hs⟩)
  dsimp only [Pt.U, Pt.locs, Pt.cells, Pt.slots] at X' l' y' z' st' hQ
  subst l' y' z'
  exact own_via (fun t => st' t) (K v T' Lc X' hQ)
theorem own_callC (X : Stand p l e R s m args below meth c T locs cells slots) (hx : p.tables.exec = Jvm.exec) {a : Addr} {Z : State} {a0 : Array Value} {h : Heap} {own : String} {index : Nat} {y : MethodName} {bytes : ByteArray} {maxL : Nat} {rm : Room} {W : Nat} {argsL : List Value} {Qc : Option Value → Heap → List Loc → Prop} {ps : List FieldType} {r : Option FieldType} {st0 : List Value} (hZ : Z.Warmed39 s.vm) (hown : s.vm.findClass own = some m.cls) (hy1 : y.name = "<init>") (w1 : (Cond.methodLink own index y).before a0 Z = true) (w2 : (Cond.instanceMethod y).before a0 Z = true) (w3 : (Cond.initialized y.cls).before a0 Z = true) (w4 : (Cond.code y bytes maxL none).before a0 Z = true) (hy : y.cls ≠ "java/lang/invoke/MethodHandle" ∧ y.cls ≠ "java/lang/invoke/VarHandle") (hM : MetFree l y (head1 [Cond.code y bytes maxL none] rm) (fun aa U => aa = (.ref a :: argsL).toArray ∧ Z.Warmed39 U.vm ∧ U.heap = h) (fun _ _ _ _ _ => True) (fun _ U o U' => ∃ v L, o = .returned v ∧ Qc v U'.heap L ∧ FrameEnd U o U' L rm.cells rm.slots)) (hpd : parseMethodDescriptor y.desc = some ⟨ps, r⟩) (hlen : argsL.length = ps.length) (eT : T.heap = h) (hml : Ls.size = c.maxLocals) (hst : st0 = argsL.reverse ++ .ref a :: st) (hW : (st.map fun v => v.category).sum ≤ W) (hf : rm.frames + 1 ≤ R.frames) (hl : W + (maxL + 11) + rm.locals ≤ R.locals) (hc : cells + rm.cells ≤ R.cells) (hs : slots + rm.slots ≤ R.slots) (hd : decode c.code pc = .ok (.invokespecial index, 3)) (hq : pc + 3 = q) (K : ∀ v T' L, Stand p l e R s m args below meth c T' (locs ++ L) (cells + rm.cells) (slots + rm.slots) → Qc v T'.heap L → own_Go p e below P (T'.setTop (mkF m q Ls (v.toList ++ st)))) : own_Go p e below P (T.setTop (mkF m pc Ls st0)) := by
  subst hq hst
  obtain ⟨v, _, ⟨T', L', k', n'⟩, -, X', ⟨Lc, hQ, l', y', z'⟩, st'⟩ := X.specialBack hx hy1 hown (mvT hZ w1) (mvT hZ w2) (mvT hZ w4) hy (backOf (W := W) hM hZ w4 w3 hf hl) (g := mkF m pc Ls (argsL.reverse ++ .ref a :: st)) rfl hml (Steps.refl _) (a := a) (argsL := argsL) (rest := st) (lenOf hpd hlen) rfl (by show 2 * 0 + _ ≤ _; omega) hd (fun _ _ => ⟨rfl, eT, hc, hs⟩)
  dsimp only [Pt.U, Pt.locs, Pt.cells, Pt.slots] at X' l' y' z' st' hQ
  subst l' y' z'
  exact own_via (fun t => st'.trans) (K v T' Lc X' hQ)
theorem own_callV (X : Stand p l e R s m args below meth c T locs cells slots) (hx : p.tables.exec = Jvm.exec) {a : Addr} {C : String} {z : MethodName} {Z : State} {a0 : Array Value} {h : Heap} {own : String} {index : Nat} {y : MethodName} {bytes : ByteArray} {maxL : Nat} {ret : Option FieldType} {rm : Room} {W : Nat} {argsL : List Value} {Qc : Option Value → Heap → List Loc → Prop} {ps : List FieldType} {r : Option FieldType} {st0 : List Value} (hZ : Z.Warmed39 s.vm) (hown : s.vm.findClass own = some m.cls) (w1 : (Cond.methodLink own index y).before a0 Z = true) (w2 : (Cond.declares y).before a0 Z = true) (w5 : (Cond.selects y.cls y y).before a0 Z = true) (w6 : (Cond.selects C y z).before a0 Z = true) (w7 : (Cond.instanceMethod z).before a0 Z = true) (w3 : (Cond.initialized z.cls).before a0 Z = true) (w4 : (Cond.code z bytes maxL ret).before a0 Z = true) (E : Exa Z h a C) (hy : y.cls ≠ "java/lang/invoke/MethodHandle" ∧ y.cls ≠ "java/lang/invoke/VarHandle") (hM : MetFree l z (head1 [Cond.code z bytes maxL ret] rm) (fun aa U => aa = (.ref a :: argsL).toArray ∧ Z.Warmed39 U.vm ∧ U.heap = h) (fun _ _ _ _ _ => True) (fun _ U o U' => ∃ v L, o = .returned v ∧ Qc v U'.heap L ∧ FrameEnd U o U' L rm.cells rm.slots)) (hpd : parseMethodDescriptor y.desc = some ⟨ps, r⟩) (hlen : argsL.length = ps.length) (eT : T.heap = h) (hml : Ls.size = c.maxLocals) (hst : st0 = argsL.reverse ++ .ref a :: st) (hW : (st.map fun v => v.category).sum ≤ W) (hf : rm.frames + 1 ≤ R.frames) (hl : W + (maxL + 11) + rm.locals ≤ R.locals) (hc : cells + rm.cells ≤ R.cells) (hs : slots + rm.slots ≤ R.slots) (hd : decode c.code pc = .ok (.invokevirtual index, 3)) (hq : pc + 3 = q) (K : ∀ v T' L, Stand p l e R s m args below meth c T' (locs ++ L) (cells + rm.cells) (slots + rm.slots) → Qc v T'.heap L → own_Go p e below P (T'.setTop (mkF m q Ls (v.toList ++ st)))) : own_Go p e below P (T.setTop (mkF m pc Ls st0)) := by
  subst hq hst
  obtain ⟨cq, kq, qa, qb, qc⟩ := isOf hZ eT E
  obtain ⟨v, _, ⟨T', L', k', n'⟩, -, X', ⟨Lc, hQ, l', y', z'⟩, st'⟩ := X.virtualBack hx (y := y) (z := z) hown (mvT hZ w1) (mvT hZ w2) (notFace_of_selects (args := #[]) (mvT hZ w5)) (mvT hZ w6) (mvT hZ w7) hy (backOf (W := W) hM hZ w4 w3 hf hl) qa qc (g := mkF m pc Ls (argsL.reverse ++ .ref a :: st)) rfl hml (Steps.refl _) (argsL := argsL) (rest := st) (lenOf hpd hlen) rfl (by show 2 * 0 + _ ≤ _; omega) hd (fun _ _ => ⟨rfl, eT, hc, hs⟩)
  dsimp only [Pt.U, Pt.locs, Pt.cells, Pt.slots] at X' l' y' z' st' hQ
  subst l' y' z'
  exact own_via (fun t => st'.trans) (K v T' Lc X' hQ)
theorem own_new (X : Stand p l e R s m args below meth c T locs cells slots) (hx : p.tables.exec = Jvm.exec) {Z : State} {a0 : Array Value} {h : Heap} (hZ : Z.Warmed39 s.vm) {own : String} {i : Nat} (hown : s.vm.findClass own = some m.cls) {C : String} {n : Nat} (w : (Cond.classLink own i C).before a0 Z = true) (wi : (Cond.instantiable C n).before a0 Z = true) (wz : (Cond.initialized C).before a0 Z = true) (eT : T.heap = h) (hd : decode c.code pc = .ok (.new i, 3)) (hc : cells + 1 ≤ R.cells) (hl : slots + n ≤ R.slots) (hq : pc + 3 = q) (K : ∀ T' h' a, Stand p l e R s m args below meth c T' locs (cells + 1) (slots + n) → T'.heap = h' → a = h.size → Ext h h' → Exa Z h' a C → (∀ {O nm d : String} {ty : FieldType}, Laid Z a0 C O nm d → parseFieldDescriptor d = some ty → Fld Z h' a O nm d (defaultValue ty)) → own_Go p e below P (T'.setTop (mkF m q Ls (.ref a :: st)))) : own_Go p e below P (T.setTop (mkF m pc Ls st)) := by
  subst hq
  obtain ⟨T', h', X', e', E', A', D', -, st'⟩ := newO X hx hZ hown w wi wz eT (g := mkF m pc Ls st) rfl hd hc hl
  exact own_via (fun t => st' t) (K T' h' _ X' e' rfl E' A' D')
theorem own_getF (X : Stand p l e R s m args below meth c T locs cells slots) (hx : p.tables.exec = Jvm.exec) {Z : State} {a0 : Array Value} {h : Heap} (hZ : Z.Warmed39 s.vm) {own : String} {i : Nat} (hown : s.vm.findClass own = some m.cls) {a : Addr} {v : Value} {R0 O n d host : String} (w : (Cond.fieldLink own i R0 n d).before a0 Z = true ∨ (Cond.fieldLinkNest own i R0 n d host).before a0 Z = true) (via : Via Z R0 O n d) (eT : T.heap = h) (F : Fld Z h a O n d v) (hd : decode c.code pc = .ok (.getfield i, 3)) (hq : pc + 3 = q) (K : ∀ T', Stand p l e R s m args below meth c T' locs cells slots → T'.heap = h → own_Go p e below P (T'.setTop (mkF m q Ls (v :: st)))) : own_Go p e below P (T.setTop (mkF m pc Ls (.ref a :: st))) := by
  subst hq
  obtain ⟨T', X', e', st'⟩ := getF X hx hZ hown w via eT F (g := mkF m pc Ls (.ref a :: st)) rfl rfl hd
  exact own_via (fun t => st' t) (K T' X' e')
theorem own_putF (X : Stand p l e R s m args below meth c T locs cells slots) (hx : p.tables.exec = Jvm.exec) {Z : State} {a0 : Array Value} {h : Heap} (hZ : Z.Warmed39 s.vm) {own : String} {i : Nat} (hown : s.vm.findClass own = some m.cls) {a : Addr} {v old : Value} {R0 O n d host C : String} {kk : Nat} {ty : FieldType} (w : (Cond.fieldLink own i R0 n d).before a0 Z = true ∨ (Cond.fieldLinkNest own i R0 n d host).before a0 Z = true) (via : Via Z R0 O n d) (eT : T.heap = h) (F : Fld Z h a O n d old) (E : Exa Z h a C) (L : (Cond.lays C O n d).before a0 Z = true ∨ ((Cond.laysFinal C O n d).before a0 Z = true ∧ own = O ∧ meth.name = "<init>")) (wi : (Cond.instantiable C kk).before a0 Z = true) (hty : parseFieldDescriptor d = some ty) (hn : narrow ty v = v) (hf : fits ty v = true) (hd : decode c.code pc = .ok (.putfield i, 3)) (hq : pc + 3 = q) (K : ∀ T' h', Stand p l e R s m args below meth c T' (locs ++ [⟨a, RoadKit.slotOf Z O n d⟩]) cells slots → T'.heap = h' → Wr h h' a (RoadKit.slotOf Z O n d) v → own_Go p e below P (T'.setTop (mkF m q Ls st))) : own_Go p e below P (T.setTop (mkF m pc Ls (v :: .ref a :: st))) := by
  subst hq
  obtain ⟨T', h', X', e', W', st'⟩ := putF X hx hZ hown w via eT F E L wi hty hn hf (g := mkF m pc Ls (v :: .ref a :: st)) rfl rfl hd
  exact own_via (fun t => st' t) (K T' h' X' e' W')
theorem own_initO (X : Stand p l e R s m args below meth c T locs cells slots) (hx : p.tables.exec = Jvm.exec) {Z : State} {a0 : Array Value} {h : Heap} (hZ : Z.Warmed39 s.vm) {own : String} {i : Nat} (hown : s.vm.findClass own = some m.cls) {a : Addr} {W : Nat} (w1 : (Cond.methodLink own i Lib.objectInit).before a0 Z = true) (w2 : (Cond.instanceMethod Lib.objectInit).before a0 Z = true) (w3 : (Cond.code Lib.objectInit ⟨#[0xb1]⟩ 1 none).before a0 Z = true) (eT : T.heap = h) (hml : Ls.size = c.maxLocals) (hf : 1 ≤ R.frames) (hW : (st.map fun v => v.category).sum ≤ W) (hl : W + 12 ≤ R.locals) (hd : decode c.code pc = .ok (.invokespecial i, 3)) (hq : pc + 3 = q) (K : ∀ T', Stand p l e R s m args below meth c T' locs cells slots → T'.heap = h → own_Go p e below P (T'.setTop (mkF m q Ls st))) : own_Go p e below P (T.setTop (mkF m pc Ls (.ref a :: st))) := by
  subst hq
  obtain ⟨T', X', e', st'⟩ := initO X hx hZ hown w1 w2 w3 eT (g := mkF m pc Ls (.ref a :: st)) rfl hml rfl hd hf (W := W) (by show 2 * 0 + _ ≤ _; omega) hl
  exact own_via (fun t => st' t) (K T' X' e')
theorem own_getS (X : Stand p l e R s m args below meth c T locs cells slots) (hx : p.tables.exec = Jvm.exec) {Z : State} {a0 : Array Value} {h : Heap} (hZ : Z.Warmed39 s.vm) {own : String} {i : Nat} (hown : s.vm.findClass own = some m.cls) {v : Value} {R0 O n d : String} (w : (Cond.fieldLink own i R0 n d).before a0 Z = true) (via : Via Z R0 O n d) (eT : T.heap = h) (F : Sta Z h O n d v) (hd : decode c.code pc = .ok (.getstatic i, 3)) (hq : pc + 3 = q) (K : ∀ T', Stand p l e R s m args below meth c T' locs cells slots → T'.heap = h → own_Go p e below P (T'.setTop (mkF m q Ls (v :: st)))) : own_Go p e below P (T.setTop (mkF m pc Ls st)) := by
  subst hq
  obtain ⟨T', X', e', st'⟩ := getS X hx hZ (host := "") hown w via eT F (g := mkF m pc Ls st) rfl hd
  exact own_via (fun t => st' t) (K T' X' e')
def own_V (h : Heap) (v : Option Value) (h' : Heap) (L : List Loc) : Prop := v = none ∧ h' = h ∧ L = []
def own_Lk (X : Stand p l e R s m args below meth c T locs cells slots) (T' : State) (locs' : List Loc) : Prop := Stand p l e R s m args below meth c T' locs' cells slots
theorem own_Lk.get {X : Stand p l e R s m args below meth c T locs cells slots} {T' : State} {locs' : List Loc} (h : own_Lk X T' locs') : Stand p l e R s m args below meth c T' locs' cells slots := h
def own_Like (X : Stand p l e R s m args below meth c T locs cells slots) (T' : State) : Prop := Stand p l e R s m args below meth c T' locs cells slots ∧ T'.heap = T.heap
def own_A (Z : State) (h : Heap) (a : Addr) (ty : FieldType) (vs : List Value) : Prop := ∃ c : Cell, Arr Z h a c ty ∧ c.slots.toList = vs
theorem own_A.lt {Z : State} {h : Heap} {a : Addr} {ty : FieldType} {vs : List Value} (F : own_A Z h a ty vs) : a < h.size := by obtain ⟨c, A, -⟩ := F; exact A.lt
theorem own_A.ext {Z : State} {h h' : Heap} {a : Addr} {ty : FieldType} {vs : List Value} (F : own_A Z h a ty vs) (E : Ext h h') : own_A Z h' a ty vs := by obtain ⟨c, A, r⟩ := F; exact ⟨c, A.ext E, r⟩
theorem own_A.other {Z : State} {h h' : Heap} {a b : Addr} {ty : FieldType} {vs : List Value} {sl : Nat} {v : Value} (F : own_A Z h b ty vs) (W : Wr h h' a sl v) (q : b ≠ a) : own_A Z h' b ty vs := by obtain ⟨c, A, r⟩ := F; exact ⟨c, A.other W q, r⟩
theorem own_A.keep {Z : State} {h h' : Heap} {a : Addr} {ty : FieldType} {vs : List Value} {ws : List Addr} (F : own_A Z h a ty vs) (K : Keep h h' ws) (q : a ∉ ws) : own_A Z h' a ty vs := by obtain ⟨c, A, r⟩ := F; exact ⟨c, ⟨K.2.1 a c A.1 q, A.2⟩, r⟩
theorem own_A.set {Z : State} {h h' : Heap} {a : Addr} {ty : FieldType} {vs : List Value} {i : Nat} {v : Value} (F : own_A Z h a ty vs) (W : Wr h h' a i v) : own_A Z h' a ty (vs.set i v) := by
  obtain ⟨c, A, rfl⟩ := F; exact ⟨_, A.same W, by simp [Cell.setSlot]⟩
theorem own_in {c : Cell} {j : Int32} {i : Nat} (hn : ¬ j < 0) (hj : j.toNatClampNeg = i) (hi : i < c.slots.toList.length) : ¬ (j < 0 ∨ c.slots.size ≤ j.toNatClampNeg) := by
  rintro (h | h)
  · exact hn h
  · rw [hj] at h; rw [Array.length_toList] at hi; exact absurd hi (Nat.not_lt.mpr h)
theorem own_iaload (X : Stand p l e R s m args below meth c T locs cells slots) (hx : p.tables.exec = Jvm.exec) {Z : State} {h : Heap} (hZ : Z.Warmed39 s.vm) {a : Addr} {j : Int32} {i : Nat} {vs : List Value} (eT : T.heap = h) {v : Value} (F : own_A Z h a .int vs) (hn : ¬ j < 0) (hj : j.toNatClampNeg = i) (hv : vs[i]? = some v) (hd : decode c.code pc = .ok (.iaload, 1)) (hq : pc + 1 = q) (K : own_Go p e below P (T.setTop (mkF m q Ls (v :: st)))) : own_Go p e below P (T.setTop (mkF m pc Ls (.int j :: .ref a :: st))) := by
  subst hq
  obtain ⟨cl, A, rfl⟩ := F
  have hv' : cl.slots[j.toNatClampNeg]? = some v := by rw [hj, ← Array.getElem?_toList]; exact hv
  have hin := own_in (c := cl) hn hj (List.getElem?_eq_some_iff.mp hv).1
  exact own_via (fun t => X.iaload hx (by rw [eT]; exact A.1) (State.isArrayOf_alike hZ.alike A.2.1) A.2.2 hin hv' (g := mkF m pc Ls (.int j :: .ref a :: st)) rfl rfl hd t) K
theorem own_laload (X : Stand p l e R s m args below meth c T locs cells slots) (hx : p.tables.exec = Jvm.exec) {Z : State} {h : Heap} (hZ : Z.Warmed39 s.vm) {a : Addr} {j : Int32} {i : Nat} {vs : List Value} (eT : T.heap = h) {v : Value} (F : own_A Z h a .long vs) (hn : ¬ j < 0) (hj : j.toNatClampNeg = i) (hv : vs[i]? = some v) (hd : decode c.code pc = .ok (.laload, 1)) (hq : pc + 1 = q) (K : own_Go p e below P (T.setTop (mkF m q Ls (v :: st)))) : own_Go p e below P (T.setTop (mkF m pc Ls (.int j :: .ref a :: st))) := by
  subst hq
  obtain ⟨cl, A, rfl⟩ := F
  have hv' : cl.slots[j.toNatClampNeg]? = some v := by rw [hj, ← Array.getElem?_toList]; exact hv
  have hin := own_in (c := cl) hn hj (List.getElem?_eq_some_iff.mp hv).1
  exact own_via (fun t => X.laload hx (by rw [eT]; exact A.1) (State.isArrayOf_alike hZ.alike A.2.1) A.2.2 hin hv' (g := mkF m pc Ls (.int j :: .ref a :: st)) rfl rfl hd t) K
theorem own_caload (X : Stand p l e R s m args below meth c T locs cells slots) (hx : p.tables.exec = Jvm.exec) {Z : State} {h : Heap} (hZ : Z.Warmed39 s.vm) {a : Addr} {j : Int32} {i : Nat} {vs : List Value} (eT : T.heap = h) {v : Value} (F : own_A Z h a .char vs) (hn : ¬ j < 0) (hj : j.toNatClampNeg = i) (hv : vs[i]? = some v) (hd : decode c.code pc = .ok (.caload, 1)) (hq : pc + 1 = q) (K : own_Go p e below P (T.setTop (mkF m q Ls (v :: st)))) : own_Go p e below P (T.setTop (mkF m pc Ls (.int j :: .ref a :: st))) := by
  subst hq
  obtain ⟨cl, A, rfl⟩ := F
  have hv' : cl.slots[j.toNatClampNeg]? = some v := by rw [hj, ← Array.getElem?_toList]; exact hv
  have hin := own_in (c := cl) hn hj (List.getElem?_eq_some_iff.mp hv).1
  exact own_via (fun t => X.caload hx (by rw [eT]; exact A.1) (State.isArrayOf_alike hZ.alike A.2.1) A.2.2 hin hv' (g := mkF m pc Ls (.int j :: .ref a :: st)) rfl rfl hd t) K
theorem own_baload (X : Stand p l e R s m args below meth c T locs cells slots) (hx : p.tables.exec = Jvm.exec) {Z : State} {h : Heap} (hZ : Z.Warmed39 s.vm) {a : Addr} {j : Int32} {i : Nat} {vs : List Value} (eT : T.heap = h) {v : Value} (F : own_A Z h a .byte vs) (hn : ¬ j < 0) (hj : j.toNatClampNeg = i) (hv : vs[i]? = some v) (hd : decode c.code pc = .ok (.baload, 1)) (hq : pc + 1 = q) (K : own_Go p e below P (T.setTop (mkF m q Ls (v :: st)))) : own_Go p e below P (T.setTop (mkF m pc Ls (.int j :: .ref a :: st))) := by
  subst hq
  obtain ⟨cl, A, rfl⟩ := F
  have hv' : cl.slots[j.toNatClampNeg]? = some v := by rw [hj, ← Array.getElem?_toList]; exact hv
  have hin := own_in (c := cl) hn hj (List.getElem?_eq_some_iff.mp hv).1
  exact own_via (fun t => X.baloadBytes hx (by rw [eT]; exact A.1) (State.isArrayOf_alike hZ.alike A.2.1) A.2.2 hin hv' (g := mkF m pc Ls (.int j :: .ref a :: st)) rfl rfl hd t) K
theorem own_zaload (X : Stand p l e R s m args below meth c T locs cells slots) (hx : p.tables.exec = Jvm.exec) {Z : State} {h : Heap} (hZ : Z.Warmed39 s.vm) {a : Addr} {j : Int32} {i : Nat} {vs : List Value} (eT : T.heap = h) {v : Value} (F : own_A Z h a .boolean vs) (hn : ¬ j < 0) (hj : j.toNatClampNeg = i) (hv : vs[i]? = some v) (hd : decode c.code pc = .ok (.baload, 1)) (hq : pc + 1 = q) (K : own_Go p e below P (T.setTop (mkF m q Ls (v :: st)))) : own_Go p e below P (T.setTop (mkF m pc Ls (.int j :: .ref a :: st))) := by
  subst hq
  obtain ⟨cl, A, rfl⟩ := F
  have hv' : cl.slots[j.toNatClampNeg]? = some v := by rw [hj, ← Array.getElem?_toList]; exact hv
  have hin := own_in (c := cl) hn hj (List.getElem?_eq_some_iff.mp hv).1
  exact own_via (fun t => X.baloadBooleans hx (by rw [eT]; exact A.1) (State.isArrayOf_alike hZ.alike A.2.1) A.2.2 hin hv' (g := mkF m pc Ls (.int j :: .ref a :: st)) rfl rfl hd t) K
theorem own_alen (X : Stand p l e R s m args below meth c T locs cells slots) (hx : p.tables.exec = Jvm.exec) {Z : State} {h : Heap} (hZ : Z.Warmed39 s.vm) {a : Addr} {vs : List Value} {ty : FieldType} {n : Int32} (eT : T.heap = h) (F : own_A Z h a ty vs) (hn : vs.length.toInt32 = n) (hd : decode c.code pc = .ok (.arraylength, 1)) (hq : pc + 1 = q) (K : own_Go p e below P (T.setTop (mkF m q Ls (.int n :: st)))) : own_Go p e below P (T.setTop (mkF m pc Ls (.ref a :: st))) := by
  subst hq
  obtain ⟨cl, A, rfl⟩ := F
  rw [Array.length_toList] at hn
  subst hn
  exact own_via (fun t => X.arraylength hx (by rw [eT]; exact A.1) (State.isArrayOf_alike hZ.alike A.2.1) (g := mkF m pc Ls (.ref a :: st)) rfl rfl hd t) K
theorem own_iastore (X : Stand p l e R s m args below meth c T locs cells slots) (hx : p.tables.exec = Jvm.exec) {Z : State} {h : Heap} (hZ : Z.Warmed39 s.vm) {a : Addr} {j : Int32} {i : Nat} {vs : List Value} (eT : T.heap = h) {x : Int32} (F : own_A Z h a .int vs) (hn : ¬ j < 0) (hj : j.toNatClampNeg = i) (hi : i < vs.length) (hd : decode c.code pc = .ok (.iastore, 1)) (hq : pc + 1 = q) (K : ∀ T' h', Stand p l e R s m args below meth c T' (locs ++ [⟨a, i⟩]) cells slots → T'.heap = h' → Wr h h' a i (.int x) → own_A Z h' a .int (vs.set i (.int x)) → own_Go p e below P (T'.setTop (mkF m q Ls st))) : own_Go p e below P (T.setTop (mkF m pc Ls (.int x :: .int j :: .ref a :: st))) := by
  subst hq hj
  have F' := F
  obtain ⟨cl, A, rfl⟩ := F
  have hin := own_in (c := cl) hn rfl hi
  obtain ⟨T', h', X', e', W', st'⟩ := stI X hx hZ eT A hin (g := mkF m pc Ls (.int x :: .int j :: .ref a :: st)) rfl rfl hd
  exact own_via (fun t => st' t) (K T' h' X' e' W' (F'.set W'))
theorem own_lastore (X : Stand p l e R s m args below meth c T locs cells slots) (hx : p.tables.exec = Jvm.exec) {Z : State} {h : Heap} (hZ : Z.Warmed39 s.vm) {a : Addr} {j : Int32} {i : Nat} {vs : List Value} (eT : T.heap = h) {x : Int64} (F : own_A Z h a .long vs) (hn : ¬ j < 0) (hj : j.toNatClampNeg = i) (hi : i < vs.length) (hd : decode c.code pc = .ok (.lastore, 1)) (hq : pc + 1 = q) (K : ∀ T' h', Stand p l e R s m args below meth c T' (locs ++ [⟨a, i⟩]) cells slots → T'.heap = h' → Wr h h' a i (.long x) → own_A Z h' a .long (vs.set i (.long x)) → own_Go p e below P (T'.setTop (mkF m q Ls st))) : own_Go p e below P (T.setTop (mkF m pc Ls (.long x :: .int j :: .ref a :: st))) := by
  subst hq hj
  have F' := F
  obtain ⟨cl, A, rfl⟩ := F
  have hin := own_in (c := cl) hn rfl hi
  obtain ⟨T', h', X', e', W', st'⟩ := stJ X hx hZ eT A hin (g := mkF m pc Ls (.long x :: .int j :: .ref a :: st)) rfl rfl hd
  exact own_via (fun t => st' t) (K T' h' X' e' W' (F'.set W'))
theorem own_castore (X : Stand p l e R s m args below meth c T locs cells slots) (hx : p.tables.exec = Jvm.exec) {Z : State} {h : Heap} (hZ : Z.Warmed39 s.vm) {a : Addr} {j : Int32} {i : Nat} {vs : List Value} (eT : T.heap = h) {x : Int32} (F : own_A Z h a .char vs) (hn : ¬ j < 0) (hj : j.toNatClampNeg = i) (hi : i < vs.length) (hd : decode c.code pc = .ok (.castore, 1)) (hq : pc + 1 = q) (K : ∀ T' h', Stand p l e R s m args below meth c T' (locs ++ [⟨a, i⟩]) cells slots → T'.heap = h' → Wr h h' a i (.int (nar .char x)) → own_A Z h' a .char (vs.set i (.int (nar .char x))) → own_Go p e below P (T'.setTop (mkF m q Ls st))) : own_Go p e below P (T.setTop (mkF m pc Ls (.int x :: .int j :: .ref a :: st))) := by
  subst hq hj
  have F' := F
  obtain ⟨cl, A, rfl⟩ := F
  have hin := own_in (c := cl) hn rfl hi
  obtain ⟨T', h', X', e', W', st'⟩ := stC X hx hZ eT A hin (g := mkF m pc Ls (.int x :: .int j :: .ref a :: st)) rfl rfl hd
  exact own_via (fun t => st' t) (K T' h' X' e' W' (F'.set W'))
theorem own_bastore (X : Stand p l e R s m args below meth c T locs cells slots) (hx : p.tables.exec = Jvm.exec) {Z : State} {h : Heap} (hZ : Z.Warmed39 s.vm) {a : Addr} {j : Int32} {i : Nat} {vs : List Value} (eT : T.heap = h) {x : Int32} (F : own_A Z h a .byte vs) (hn : ¬ j < 0) (hj : j.toNatClampNeg = i) (hi : i < vs.length) (hd : decode c.code pc = .ok (.bastore, 1)) (hq : pc + 1 = q) (K : ∀ T' h', Stand p l e R s m args below meth c T' (locs ++ [⟨a, i⟩]) cells slots → T'.heap = h' → Wr h h' a i (.int x.toInt8.toInt32) → own_A Z h' a .byte (vs.set i (.int x.toInt8.toInt32)) → own_Go p e below P (T'.setTop (mkF m q Ls st))) : own_Go p e below P (T.setTop (mkF m pc Ls (.int x :: .int j :: .ref a :: st))) := by
  subst hq hj
  have F' := F
  obtain ⟨cl, A, rfl⟩ := F
  have hin := own_in (c := cl) hn rfl hi
  obtain ⟨T', h', X', e', W', st'⟩ := stB X hx hZ eT A hin (g := mkF m pc Ls (.int x :: .int j :: .ref a :: st)) rfl rfl hd
  exact own_via (fun t => st' t) (K T' h' X' e' W' (F'.set W'))
theorem own_zastore (X : Stand p l e R s m args below meth c T locs cells slots) (hx : p.tables.exec = Jvm.exec) {Z : State} {h : Heap} (hZ : Z.Warmed39 s.vm) {a : Addr} {j : Int32} {i : Nat} {vs : List Value} (eT : T.heap = h) {x : Int32} (F : own_A Z h a .boolean vs) (hn : ¬ j < 0) (hj : j.toNatClampNeg = i) (hi : i < vs.length) (hd : decode c.code pc = .ok (.bastore, 1)) (hq : pc + 1 = q) (K : ∀ T' h', Stand p l e R s m args below meth c T' (locs ++ [⟨a, i⟩]) cells slots → T'.heap = h' → Wr h h' a i (.int (nar .boolean x)) → own_A Z h' a .boolean (vs.set i (.int (nar .boolean x))) → own_Go p e below P (T'.setTop (mkF m q Ls st))) : own_Go p e below P (T.setTop (mkF m pc Ls (.int x :: .int j :: .ref a :: st))) := by
  subst hq hj
  have F' := F
  obtain ⟨cl, A, rfl⟩ := F
  have hin := own_in (c := cl) hn rfl hi
  obtain ⟨T', h', X', e', W', st'⟩ := stZ X hx hZ eT A hin (g := mkF m pc Ls (.int x :: .int j :: .ref a :: st)) rfl rfl hd
  exact own_via (fun t => st' t) (K T' h' X' e' W' (F'.set W'))
theorem own_newA (X : Stand p l e R s m args below meth c T locs cells slots) (hx : p.tables.exec = Jvm.exec) {Z : State} {a0 : Array Value} {h : Heap} (hZ : Z.Warmed39 s.vm) {aty : ArrayType} {ty : FieldType} {n : Int32} {k cap : Nat} (hty : newarray.typeOf aty = ty) (w : (Cond.arrayClass ty).before a0 Z = true) (eT : T.heap = h) (hn : ¬ n < 0) (hk : n.toNatClampNeg = k) (hcap : k ≤ cap) (hb8 : cap * 8 ≤ 536870912) (hc : cells + 1 ≤ R.cells) (hl : slots + cap ≤ R.slots) (hd : decode c.code pc = .ok (.newarray aty, 2)) (hq : pc + 2 = q) (K : ∀ T' h' a, Stand p l e R s m args below meth c T' locs (cells + 1) (slots + cap) → T'.heap = h' → a = h.size → Ext h h' → own_A Z h' a ty (List.replicate k (defaultValue ty)) → own_Go p e below P (T'.setTop (mkF m q Ls (.ref a :: st)))) : own_Go p e below P (T.setTop (mkF m pc Ls (.int n :: st))) := by
  subst hq hty hk
  obtain ⟨T', h', cA, X', e', E', A', st'⟩ := newP X hx hZ w eT (g := mkF m pc Ls (.int n :: st)) rfl hd rfl hn hcap hb8 hc hl
  exact own_via (fun t => st' t) (K T' h' _ X' e' rfl E' ⟨_, A', by simp [newA]⟩)
theorem own_lswHit (X : Stand p l e R s m args below meth c T locs cells slots) (hx : p.tables.exec = Jvm.exec) {k : Int32} {dflt : Int} {prs : Array (Int × Int)} {len : Nat} {v : Int32} {b off : Int} (hk : k = v) (hd : decode c.code pc = .ok (.lookupswitch dflt prs, len)) (hs : (prs.toList.zip (prs.toList.drop 1)).all (fun (a, next) => a.1 < next.1) = true) (hf : prs.find? (·.1 == v.toInt) = some (b, off)) (ho : 0 ≤ (pc : Int) + off) (hp : ((pc : Int) + off).toNat = q) (K : own_Go p e below P (T.setTop (mkF m q Ls st))) : own_Go p e below P (T.setTop (mkF m pc Ls (.int k :: st))) := by
  subst hk hp; exact own_via (fun t => X.lookupswitchHit hx (g := mkF m pc Ls (.int k :: st)) rfl rfl hd hs hf ho t) K
theorem own_lswMiss (X : Stand p l e R s m args below meth c T locs cells slots) (hx : p.tables.exec = Jvm.exec) {k : Int32} {dflt : Int} {prs : Array (Int × Int)} {len : Nat} (hm : prs.find? (·.1 == k.toInt) = none) (hd : decode c.code pc = .ok (.lookupswitch dflt prs, len)) (hs : (prs.toList.zip (prs.toList.drop 1)).all (fun (a, next) => a.1 < next.1) = true) (ho : 0 ≤ (pc : Int) + dflt) (hp : ((pc : Int) + dflt).toNat = q) (K : own_Go p e below P (T.setTop (mkF m q Ls st))) : own_Go p e below P (T.setTop (mkF m pc Ls (.int k :: st))) := by
  subst hp; exact own_via (fun t => X.lookupswitchMiss hx (g := mkF m pc Ls (.int k :: st)) rfl rfl hd hs hm ho t) K
theorem own_instY (X : Stand p l e R s m args below meth c T locs cells slots) (hx : p.tables.exec = Jvm.exec) {Z : State} {a0 : Array Value} {h : Heap} (hZ : Z.Warmed39 s.vm) {own : String} {i : Nat} (hown : s.vm.findClass own = some m.cls) {a : Addr} {K0 : String} (w : (Cond.classLink own i K0).before a0 Z = true) (eT : T.heap = h) (F : Ins Z h a K0 true) (hd : decode c.code pc = .ok (.instanceof i, 3)) (hq : pc + 3 = q) (K : ∀ T', Stand p l e R s m args below meth c T' locs cells slots → T'.heap = h → own_Go p e below P (T'.setTop (mkF m q Ls (.int 1 :: st)))) : own_Go p e below P (T.setTop (mkF m pc Ls (.ref a :: st))) := by
  subst hq
  obtain ⟨T', X', e', st'⟩ := instY X hx hZ hown w eT F (g := mkF m pc Ls (.ref a :: st)) rfl rfl hd
  exact own_via (fun t => st' t) (K T' X' e')
theorem own_instN (X : Stand p l e R s m args below meth c T locs cells slots) (hx : p.tables.exec = Jvm.exec) {Z : State} {a0 : Array Value} {h : Heap} (hZ : Z.Warmed39 s.vm) {own : String} {i : Nat} (hown : s.vm.findClass own = some m.cls) {a : Addr} {K0 C : String} (w : (Cond.classLink own i K0).before a0 Z = true) (eT : T.heap = h) (E : Exa Z h a C) (F : ∃ c t, Z.vm.findClass C = some c ∧ Z.vm.findClass K0 = some t ∧ Z.vm.assignable c t = false) (hd : decode c.code pc = .ok (.instanceof i, 3)) (hq : pc + 3 = q) (K : ∀ T', Stand p l e R s m args below meth c T' locs cells slots → T'.heap = h → own_Go p e below P (T'.setTop (mkF m q Ls (.int 0 :: st)))) : own_Go p e below P (T.setTop (mkF m pc Ls (.ref a :: st))) := by
  subst hq
  obtain ⟨T', X', e', st'⟩ := instNo X hx hZ hown w eT E F (g := mkF m pc Ls (.ref a :: st)) rfl rfl hd
  exact own_via (fun t => st' t) (K T' X' e')
theorem own_cast (X : Stand p l e R s m args below meth c T locs cells slots) (hx : p.tables.exec = Jvm.exec) {Z : State} {a0 : Array Value} {h : Heap} (hZ : Z.Warmed39 s.vm) {own : String} {i : Nat} (hown : s.vm.findClass own = some m.cls) {a : Addr} {K0 : String} (w : (Cond.classLink own i K0).before a0 Z = true) (eT : T.heap = h) (F : Ins Z h a K0 true) (hd : decode c.code pc = .ok (.checkcast i, 3)) (hq : pc + 3 = q) (K : ∀ T', Stand p l e R s m args below meth c T' locs cells slots → T'.heap = h → own_Go p e below P (T'.setTop (mkF m q Ls (.ref a :: st)))) : own_Go p e below P (T.setTop (mkF m pc Ls (.ref a :: st))) := by
  subst hq
  obtain ⟨T', X', e', st'⟩ := castY X hx hZ hown w eT F (g := mkF m pc Ls (.ref a :: st)) rfl rfl hd
  exact own_via (fun t => st' t) (K T' X' e')
theorem own_inst0 (X : Stand p l e R s m args below meth c T locs cells slots) (hx : p.tables.exec = Jvm.exec) {i : Nat} (hd : decode c.code pc = .ok (.instanceof i, 3)) (hq : pc + 3 = q) (K : own_Go p e below P (T.setTop (mkF m q Ls (.int 0 :: st)))) : own_Go p e below P (T.setTop (mkF m pc Ls (.null :: st))) := by
  subst hq; exact own_via (fun t => X.instanceofNull hx (g := mkF m pc Ls (.null :: st)) rfl (rest := st) rfl hd t) K
theorem own_staKeep {Z : State} {h h' : Heap} {ws : List Addr} {C n d : String} {v : Value} (F : Sta Z h C n d v) (K : Keep h h' ws) (q : ∀ a ∈ ws, ∀ c : Cell, h[a]? = some c → c.vm.isStatics = false) : Sta Z h' C n d v := by
  obtain ⟨cf, i, k, f, st, cell, h1, h2, h3, h4, h5, h6, h7⟩ := F
  exact ⟨cf, i, k, f, st, cell, h1, h2, h3, h4, K.2.1 st cell h5 (fun hm => by rw [q st hm cell h5] at h6; cases h6), h6, h7⟩
theorem own_exaPlain {Z : State} {h : Heap} {a : Addr} {C : String} (E : Exa Z h a C) : ∀ c : Cell, h[a]? = some c → c.vm.isStatics = false := fun c hc => by
  obtain ⟨cell, k, h1, -, -, h4, -⟩ := E
  cases h1.symm.trans hc; exact h4
theorem own_A.plain {Z : State} {h : Heap} {a : Addr} {ty : FieldType} {vs : List Value} (F : own_A Z h a ty vs) : ∀ c : Cell, h[a]? = some c → c.vm.isStatics = false := fun c hc => by
  obtain ⟨cl, A, -⟩ := F
  cases A.1.symm.trans hc; exact A.plain
theorem own_callCB (X : Stand p l e R s m args below meth c T locs cells slots) (hx : p.tables.exec = Jvm.exec) {a : Addr} {Z : State} {a0 : Array Value} {h : Heap} {own : String} {index : Nat} {y : MethodName} {bytes : ByteArray} {maxL : Nat} {k1 k2 : Nat} {W : Nat} {argsL : List Value} {Qc : Option Value → Heap → List Loc → Prop} {ps : List FieldType} {r : Option FieldType} {st0 : List Value} (hZ : Z.Warmed39 s.vm) (hown : s.vm.findClass own = some m.cls) (hy1 : y.name = "<init>") (w1 : (Cond.methodLink own index y).before a0 Z = true) (w2 : (Cond.instanceMethod y).before a0 Z = true) (w4 : (Cond.code y bytes maxL none).before a0 Z = true) (hy : y.cls ≠ "java/lang/invoke/MethodHandle" ∧ y.cls ≠ "java/lang/invoke/VarHandle") (hK : Back l R p e below s args y 3 W (fun P aa => aa = (.ref a :: argsL).toArray ∧ P.U.heap = h ∧ P.cells + k1 ≤ R.cells ∧ P.slots + k2 ≤ R.slots) (fun P _ v B => ∃ L, Qc v B.U.heap L ∧ B.locs = P.locs ++ L ∧ B.cells = P.cells + k1 ∧ B.slots = P.slots + k2)) (hpd : parseMethodDescriptor y.desc = some ⟨ps, r⟩) (hlen : argsL.length = ps.length) (eT : T.heap = h) (hml : Ls.size = c.maxLocals) (hst : st0 = argsL.reverse ++ .ref a :: st) (hW : (st.map fun v => v.category).sum ≤ W) (hc : cells + k1 ≤ R.cells) (hs : slots + k2 ≤ R.slots) (hd : decode c.code pc = .ok (.invokespecial index, 3)) (hq : pc + 3 = q) (K : ∀ v T' L, Stand p l e R s m args below meth c T' (locs ++ L) (cells + k1) (slots + k2) → Qc v T'.heap L → own_Go p e below P (T'.setTop (mkF m q Ls (v.toList ++ st)))) : own_Go p e below P (T.setTop (mkF m pc Ls st0)) := by
  subst hq hst
  obtain ⟨v, _, ⟨T', L', k', n'⟩, -, X', ⟨Lc, hQ, l', y', z'⟩, st'⟩ := X.specialBack hx hy1 hown (mvT hZ w1) (mvT hZ w2) (mvT hZ w4) hy hK (g := mkF m pc Ls (argsL.reverse ++ .ref a :: st)) rfl hml (Steps.refl _) (a := a) (argsL := argsL) (rest := st) (lenOf hpd hlen) rfl (by show 2 * 0 + _ ≤ _; omega) hd (fun _ _ => ⟨rfl, eT, hc, hs⟩)
  dsimp only [Pt.U, Pt.locs, Pt.cells, Pt.slots] at X' l' y' z' st' hQ
  subst l' y' z'
  exact own_via (fun t => st'.trans) (K v T' Lc X' hQ)
theorem own_A.arv {Z : State} {h : Heap} {a : Addr} {ty : FieldType} {vs : List Value} {N : Int32} {d : Value} (F : own_A Z h a ty vs) (hN : N.toNatClampNeg = vs.length) (hn : ¬ N < 0) (hf : ∀ v ∈ vs, fits ty v = true) : ∃ k, Arv Z h a k ty N vs d := by
  obtain ⟨c, A, rfl⟩ := F
  rw [Array.length_toList] at hN
  have key : ∀ i, i < c.slots.size → c.slots.toList.getD i d = c.slots[i]! ∧ c.slots[i]? = some (c.slots.toList.getD i d) ∧ c.slots.toList.getD i d ∈ c.slots.toList := fun i hi => by
    have h1 : c.slots.toList[i]? = some c.slots[i] := by rw [Array.getElem?_toList]; exact Array.getElem?_eq_getElem hi
    have h2 : c.slots.toList.getD i d = c.slots[i] := by rw [List.getD_eq_getElem?_getD, h1]; rfl
    refine ⟨by rw [h2, getElem!_pos c.slots i hi], by rw [h2]; exact Array.getElem?_eq_getElem hi, ?_⟩
    rw [h2]; exact Array.getElem_mem_toList hi
  exact ⟨c.cls, c, A, rfl, hN.symm, hn, fun i hi => (key i hi).2.1, fun i hi => hf _ (key i hi).2.2⟩
theorem own_A.of_arv {Z : State} {h : Heap} {a : Addr} {k : ClassId} {ty : FieldType} {vs : List Value} {N : Int32} {d : Value} (F : Arv Z h a k ty N vs d) (hN : N.toNatClampNeg = vs.length) : own_A Z h a ty vs := by
  obtain ⟨c, A, -, S, -, H, -⟩ := F
  refine ⟨c, A, List.ext_getElem? fun i => ?_⟩
  rw [Array.getElem?_toList]
  by_cases hi : i < c.slots.size
  · have hj : i < vs.length := by rw [← hN, ← S]; exact hi
    rw [H i hi, List.getD_eq_getElem?_getD, List.getElem?_eq_getElem hj]; rfl
  · have hj : ¬ i < vs.length := by rw [← hN, ← S]; exact hi
    rw [Array.getElem?_eq_none (Nat.le_of_not_lt hi), List.getElem?_eq_none (Nat.le_of_not_lt hj)]
theorem own_callSP (X : Stand p l e R s m args below meth c T locs cells slots) (hx : p.tables.exec = Jvm.exec) {Z : State} {a0 : Array Value} {h : Heap} {own : String} {index : Nat} {y : MethodName} {bytes : ByteArray} {maxL : Nat} {ret : Option FieldType} {W : Nat} {argsL : List Value} {fr lo : Nat} {w : Value} {ps : List FieldType} {r : Option FieldType} {st0 : List Value} (hZ : Z.Warmed39 s.vm) (hown : s.vm.findClass own = some m.cls) (w1 : (Cond.methodLink own index y).before a0 Z = true) (w2 : (Cond.static y).before a0 Z = true) (w3 : (Cond.initialized y.cls).before a0 Z = true) (w4 : (Cond.code y bytes maxL ret).before a0 Z = true) (hy : y.cls ≠ "java/lang/invoke/MethodHandle" ∧ y.cls ≠ "java/lang/invoke/VarHandle") (hM : MetFree l y (head1 [Cond.code y bytes maxL ret] ({ frames := fr, cells := 0, slots := 0, locals := lo } : Room)) (fun aa U => aa = argsL.toArray ∧ Z.Warmed39 U.vm ∧ U.heap = h) (fun _ _ _ _ _ => True) (fun _ U o U' => ∃ v L, o = .returned v ∧ own_P w h v U'.heap L ∧ FrameEnd U o U' L 0 0)) (hpd : parseMethodDescriptor y.desc = some ⟨ps, r⟩) (hlen : argsL.length = ps.length) (eT : T.heap = h) (hml : Ls.size = c.maxLocals) (hst : st0 = argsL.reverse ++ st) (hW : (st.map fun v => v.category).sum ≤ W) (hf : fr + 1 ≤ R.frames) (hl : W + (maxL + 11) + lo ≤ R.locals) (hc : cells ≤ R.cells) (hs : slots ≤ R.slots) (hd : decode c.code pc = .ok (.invokestatic index, 3)) (hq : pc + 3 = q) (K : ∀ T', Stand p l e R s m args below meth c T' locs cells slots → T'.heap = h → own_Go p e below P (T'.setTop (mkF m q Ls (w :: st)))) : own_Go p e below P (T.setTop (mkF m pc Ls st0)) := by
  refine own_callS X hx hZ hown w1 w2 w3 w4 hy hM hpd hlen eT hml hst hW hf hl hc hs hd hq fun v T' L X' hQ => ?_
  obtain ⟨rfl, eh, rfl⟩ := hQ
  rw [List.append_nil] at X'
  exact K T' X' eh
theorem own_callVP (X : Stand p l e R s m args below meth c T locs cells slots) (hx : p.tables.exec = Jvm.exec) {a : Addr} {C : String} {z : MethodName} {Z : State} {a0 : Array Value} {h : Heap} {own : String} {index : Nat} {y : MethodName} {bytes : ByteArray} {maxL : Nat} {ret : Option FieldType} {W : Nat} {argsL : List Value} {fr lo : Nat} {w : Value} {ps : List FieldType} {r : Option FieldType} {st0 : List Value} (hZ : Z.Warmed39 s.vm) (hown : s.vm.findClass own = some m.cls) (w1 : (Cond.methodLink own index y).before a0 Z = true) (w2 : (Cond.declares y).before a0 Z = true) (w5 : (Cond.selects y.cls y y).before a0 Z = true) (w6 : (Cond.selects C y z).before a0 Z = true) (w7 : (Cond.instanceMethod z).before a0 Z = true) (w3 : (Cond.initialized z.cls).before a0 Z = true) (w4 : (Cond.code z bytes maxL ret).before a0 Z = true) (E : Exa Z h a C) (hy : y.cls ≠ "java/lang/invoke/MethodHandle" ∧ y.cls ≠ "java/lang/invoke/VarHandle") (hM : MetFree l z (head1 [Cond.code z bytes maxL ret] ({ frames := fr, cells := 0, slots := 0, locals := lo } : Room)) (fun aa U => aa = (.ref a :: argsL).toArray ∧ Z.Warmed39 U.vm ∧ U.heap = h) (fun _ _ _ _ _ => True) (fun _ U o U' => ∃ v L, o = .returned v ∧ own_P w h v U'.heap L ∧ FrameEnd U o U' L 0 0)) (hpd : parseMethodDescriptor y.desc = some ⟨ps, r⟩) (hlen : argsL.length = ps.length) (eT : T.heap = h) (hml : Ls.size = c.maxLocals) (hst : st0 = argsL.reverse ++ .ref a :: st) (hW : (st.map fun v => v.category).sum ≤ W) (hf : fr + 1 ≤ R.frames) (hl : W + (maxL + 11) + lo ≤ R.locals) (hc : cells ≤ R.cells) (hs : slots ≤ R.slots) (hd : decode c.code pc = .ok (.invokevirtual index, 3)) (hq : pc + 3 = q) (K : ∀ T', Stand p l e R s m args below meth c T' locs cells slots → T'.heap = h → own_Go p e below P (T'.setTop (mkF m q Ls (w :: st)))) : own_Go p e below P (T.setTop (mkF m pc Ls st0)) := by
  refine own_callV X hx hZ hown w1 w2 w5 w6 w7 w3 w4 E hy hM hpd hlen eT hml hst hW hf hl hc hs hd hq fun v T' L X' hQ => ?_
  obtain ⟨rfl, eh, rfl⟩ := hQ
  rw [List.append_nil] at X'
  exact K T' X' eh
theorem own_callCV (X : Stand p l e R s m args below meth c T locs cells slots) (hx : p.tables.exec = Jvm.exec) {a : Addr} {Z : State} {a0 : Array Value} {h : Heap} {own : String} {index : Nat} {y : MethodName} {bytes : ByteArray} {maxL : Nat} {W : Nat} {argsL : List Value} {fr lo : Nat} {ps : List FieldType} {r : Option FieldType} {st0 : List Value} (hZ : Z.Warmed39 s.vm) (hown : s.vm.findClass own = some m.cls) (hy1 : y.name = "<init>") (w1 : (Cond.methodLink own index y).before a0 Z = true) (w2 : (Cond.instanceMethod y).before a0 Z = true) (w3 : (Cond.initialized y.cls).before a0 Z = true) (w4 : (Cond.code y bytes maxL none).before a0 Z = true) (hy : y.cls ≠ "java/lang/invoke/MethodHandle" ∧ y.cls ≠ "java/lang/invoke/VarHandle") (hM : MetFree l y (head1 [Cond.code y bytes maxL none] ({ frames := fr, cells := 0, slots := 0, locals := lo } : Room)) (fun aa U => aa = (.ref a :: argsL).toArray ∧ Z.Warmed39 U.vm ∧ U.heap = h) (fun _ _ _ _ _ => True) (fun _ U o U' => ∃ v L, o = .returned v ∧ own_V h v U'.heap L ∧ FrameEnd U o U' L 0 0)) (hpd : parseMethodDescriptor y.desc = some ⟨ps, r⟩) (hlen : argsL.length = ps.length) (eT : T.heap = h) (hml : Ls.size = c.maxLocals) (hst : st0 = argsL.reverse ++ .ref a :: st) (hW : (st.map fun v => v.category).sum ≤ W) (hf : fr + 1 ≤ R.frames) (hl : W + (maxL + 11) + lo ≤ R.locals) (hc : cells ≤ R.cells) (hs : slots ≤ R.slots) (hd : decode c.code pc = .ok (.invokespecial index, 3)) (hq : pc + 3 = q) (K : ∀ T', Stand p l e R s m args below meth c T' locs cells slots → T'.heap = h → own_Go p e below P (T'.setTop (mkF m q Ls st))) : own_Go p e below P (T.setTop (mkF m pc Ls st0)) := by
  refine own_callC X hx hZ hown hy1 w1 w2 w3 w4 hy hM hpd hlen eT hml hst hW hf hl hc hs hd hq fun v T' L X' hQ => ?_
  obtain ⟨rfl, eh, rfl⟩ := hQ
  rw [List.append_nil] at X'
  exact K T' X' eh
theorem own_callSV (X : Stand p l e R s m args below meth c T locs cells slots) (hx : p.tables.exec = Jvm.exec) {Z : State} {a0 : Array Value} {h : Heap} {own : String} {index : Nat} {y : MethodName} {bytes : ByteArray} {maxL : Nat} {ret : Option FieldType} {W : Nat} {argsL : List Value} {fr lo : Nat} {ps : List FieldType} {r : Option FieldType} {st0 : List Value} (hZ : Z.Warmed39 s.vm) (hown : s.vm.findClass own = some m.cls) (w1 : (Cond.methodLink own index y).before a0 Z = true) (w2 : (Cond.static y).before a0 Z = true) (w3 : (Cond.initialized y.cls).before a0 Z = true) (w4 : (Cond.code y bytes maxL ret).before a0 Z = true) (hy : y.cls ≠ "java/lang/invoke/MethodHandle" ∧ y.cls ≠ "java/lang/invoke/VarHandle") (hM : MetFree l y (head1 [Cond.code y bytes maxL ret] ({ frames := fr, cells := 0, slots := 0, locals := lo } : Room)) (fun aa U => aa = argsL.toArray ∧ Z.Warmed39 U.vm ∧ U.heap = h) (fun _ _ _ _ _ => True) (fun _ U o U' => ∃ v L, o = .returned v ∧ own_V h v U'.heap L ∧ FrameEnd U o U' L 0 0)) (hpd : parseMethodDescriptor y.desc = some ⟨ps, r⟩) (hlen : argsL.length = ps.length) (eT : T.heap = h) (hml : Ls.size = c.maxLocals) (hst : st0 = argsL.reverse ++ st) (hW : (st.map fun v => v.category).sum ≤ W) (hf : fr + 1 ≤ R.frames) (hl : W + (maxL + 11) + lo ≤ R.locals) (hc : cells ≤ R.cells) (hs : slots ≤ R.slots) (hd : decode c.code pc = .ok (.invokestatic index, 3)) (hq : pc + 3 = q) (K : ∀ T', Stand p l e R s m args below meth c T' locs cells slots → T'.heap = h → own_Go p e below P (T'.setTop (mkF m q Ls st))) : own_Go p e below P (T.setTop (mkF m pc Ls st0)) := by
  refine own_callS X hx hZ hown w1 w2 w3 w4 hy hM hpd hlen eT hml hst hW hf hl hc hs hd hq fun v T' L X' hQ => ?_
  obtain ⟨rfl, eh, rfl⟩ := hQ
  rw [List.append_nil] at X'
  exact K T' X' eh
theorem own_callVV (X : Stand p l e R s m args below meth c T locs cells slots) (hx : p.tables.exec = Jvm.exec) {a : Addr} {C : String} {z : MethodName} {Z : State} {a0 : Array Value} {h : Heap} {own : String} {index : Nat} {y : MethodName} {bytes : ByteArray} {maxL : Nat} {ret : Option FieldType} {W : Nat} {argsL : List Value} {fr lo : Nat} {ps : List FieldType} {r : Option FieldType} {st0 : List Value} (hZ : Z.Warmed39 s.vm) (hown : s.vm.findClass own = some m.cls) (w1 : (Cond.methodLink own index y).before a0 Z = true) (w2 : (Cond.declares y).before a0 Z = true) (w5 : (Cond.selects y.cls y y).before a0 Z = true) (w6 : (Cond.selects C y z).before a0 Z = true) (w7 : (Cond.instanceMethod z).before a0 Z = true) (w3 : (Cond.initialized z.cls).before a0 Z = true) (w4 : (Cond.code z bytes maxL ret).before a0 Z = true) (E : Exa Z h a C) (hy : y.cls ≠ "java/lang/invoke/MethodHandle" ∧ y.cls ≠ "java/lang/invoke/VarHandle") (hM : MetFree l z (head1 [Cond.code z bytes maxL ret] ({ frames := fr, cells := 0, slots := 0, locals := lo } : Room)) (fun aa U => aa = (.ref a :: argsL).toArray ∧ Z.Warmed39 U.vm ∧ U.heap = h) (fun _ _ _ _ _ => True) (fun _ U o U' => ∃ v L, o = .returned v ∧ own_V h v U'.heap L ∧ FrameEnd U o U' L 0 0)) (hpd : parseMethodDescriptor y.desc = some ⟨ps, r⟩) (hlen : argsL.length = ps.length) (eT : T.heap = h) (hml : Ls.size = c.maxLocals) (hst : st0 = argsL.reverse ++ .ref a :: st) (hW : (st.map fun v => v.category).sum ≤ W) (hf : fr + 1 ≤ R.frames) (hl : W + (maxL + 11) + lo ≤ R.locals) (hc : cells ≤ R.cells) (hs : slots ≤ R.slots) (hd : decode c.code pc = .ok (.invokevirtual index, 3)) (hq : pc + 3 = q) (K : ∀ T', Stand p l e R s m args below meth c T' locs cells slots → T'.heap = h → own_Go p e below P (T'.setTop (mkF m q Ls st))) : own_Go p e below P (T.setTop (mkF m pc Ls st0)) := by
  refine own_callV X hx hZ hown w1 w2 w5 w6 w7 w3 w4 E hy hM hpd hlen eT hml hst hW hf hl hc hs hd hq fun v T' L X' hQ => ?_
  obtain ⟨rfl, eh, rfl⟩ := hQ
  rw [List.append_nil] at X'
  exact K T' X' eh
end OwnKit
section OwnKitR
variable {p : Program} {l : Launch} {e : Env} {R : Room} {s : State} {m : MethodId} {args : Array Value} {below : List Frame} {meth : Method} {c : Code} {T : State} {locs : List Loc} {cells slots kc ks : Nat} {Q : Option Value → Heap → List Loc → Prop} {P : Outcome → State → Prop} {pc q : Nat} {Ls L' : Array Slot} {st : List Value}
def own_R (Z : State) (h : Heap) (a : Addr) (vs : List Value) : Prop := ∃ c : Cell, Arr Z h a c (.object "java/lang/Object") ∧ Ovr Z c.cls "java/lang/Object" ∧ Z.vm.findClass "[Ljava/lang/Object;" = some c.cls ∧ c.slots.toList = vs
theorem own_R.lt {Z : State} {h : Heap} {a : Addr} {vs : List Value} (F : own_R Z h a vs) : a < h.size := by obtain ⟨c, A, -⟩ := F; exact A.lt
theorem own_R.ext {Z : State} {h h' : Heap} {a : Addr} {vs : List Value} (F : own_R Z h a vs) (E : Ext h h') : own_R Z h' a vs := by obtain ⟨c, A, r⟩ := F; exact ⟨c, A.ext E, r⟩
theorem own_R.other {Z : State} {h h' : Heap} {a b : Addr} {vs : List Value} {sl : Nat} {v : Value} (F : own_R Z h b vs) (W : Wr h h' a sl v) (q : b ≠ a) : own_R Z h' b vs := by obtain ⟨c, A, r⟩ := F; exact ⟨c, A.other W q, r⟩
theorem own_R.keep {Z : State} {h h' : Heap} {a : Addr} {vs : List Value} {ws : List Addr} (F : own_R Z h a vs) (K : Keep h h' ws) (q : a ∉ ws) : own_R Z h' a vs := by obtain ⟨c, A, r⟩ := F; exact ⟨c, ⟨K.2.1 a c A.1 q, A.2⟩, r⟩
theorem own_R.set {Z : State} {h h' : Heap} {a : Addr} {vs : List Value} {i : Nat} {v : Value} (F : own_R Z h a vs) (W : Wr h h' a i v) : own_R Z h' a (vs.set i v) := by
  obtain ⟨c, A, o, f, rfl⟩ := F; exact ⟨_, A.same W, o, f, by simp [Cell.setSlot]⟩
theorem own_R.arr {Z : State} {h : Heap} {a : Addr} {vs : List Value} (F : own_R Z h a vs) : own_A Z h a (.object "java/lang/Object") vs := by obtain ⟨c, A, -, -, r⟩ := F; exact ⟨c, A, r⟩
theorem own_R.plain {Z : State} {h : Heap} {a : Addr} {vs : List Value} (F : own_R Z h a vs) : ∀ c : Cell, h[a]? = some c → c.vm.isStatics = false := F.arr.plain
theorem own_R.sto {Z : State} {h : Heap} {a y : Addr} {vs : List Value} (F : own_R Z h a vs) (I : Ins Z h y "java/lang/Object" true) : Sto Z h a (.ref y) := by obtain ⟨c, A, o, -⟩ := F; exact Sto.of A o I
def own_Ex (Z : State) (h : Heap) (bs : List Value) : Prop := ∀ v ∈ bs, ∃ b, v = .ref b ∧ Exa Z h b "java/lang/Integer"
theorem own_Ex.ext {Z : State} {h h' : Heap} {bs : List Value} (F : own_Ex Z h bs) (E : Ext h h') : own_Ex Z h' bs := fun v hv => by obtain ⟨b, e, q⟩ := F v hv; exact ⟨b, e, Exa.ext E q⟩
theorem own_Ex.wr {Z : State} {h h' : Heap} {bs : List Value} {a : Addr} {sl : Nat} {w : Value} (F : own_Ex Z h bs) (W : Wr h h' a sl w) : own_Ex Z h' bs := fun v hv => by obtain ⟨b, e, q⟩ := F v hv; exact ⟨b, e, Exa.wr W q⟩
theorem own_Ex.keep {Z : State} {h h' : Heap} {bs : List Value} {ws : List Addr} (F : own_Ex Z h bs) (K : Keep h h' ws) : own_Ex Z h' bs := fun v hv => by obtain ⟨b, e, q⟩ := F v hv; exact ⟨b, e, q.keep K⟩
theorem own_Ex.nil {Z : State} {h : Heap} : own_Ex Z h [] := fun v hv => by cases hv
theorem own_Ex.snoc {Z : State} {h : Heap} {bs : List Value} {b : Addr} (F : own_Ex Z h bs) (E : Exa Z h b "java/lang/Integer") : own_Ex Z h (bs ++ [.ref b]) := fun v hv => by
  rcases List.mem_append.mp hv with q | q
  · exact F v q
  · exact ⟨b, List.mem_singleton.mp q, E⟩
theorem own_aaload (X : Stand p l e R s m args below meth c T locs cells slots) (hx : p.tables.exec = Jvm.exec) {Z : State} {h : Heap} (hZ : Z.Warmed39 s.vm) {a : Addr} {j : Int32} {i : Nat} {vs : List Value} (eT : T.heap = h) {v : Value} (F : own_R Z h a vs) (hn : ¬ j < 0) (hj : j.toNatClampNeg = i) (hv : vs[i]? = some v) (hd : decode c.code pc = .ok (.aaload, 1)) (hq : pc + 1 = q) (K : own_Go p e below P (T.setTop (mkF m q Ls (v :: st)))) : own_Go p e below P (T.setTop (mkF m pc Ls (.int j :: .ref a :: st))) := by
  subst hq
  obtain ⟨cl, A, -, -, rfl⟩ := F
  have hv' : cl.slots[j.toNatClampNeg]? = some v := by rw [hj, ← Array.getElem?_toList]; exact hv
  have hin := own_in (c := cl) hn hj (List.getElem?_eq_some_iff.mp hv).1
  exact own_via (fun t => X.aaload hx (by rw [eT]; exact A.1) (State.isArrayOf_alike hZ.alike A.2.1) rfl A.2.2 hin hv' (g := mkF m pc Ls (.int j :: .ref a :: st)) rfl rfl hd t) K
theorem own_aaloadA (X : Stand p l e R s m args below meth c T locs cells slots) (hx : p.tables.exec = Jvm.exec) {Z : State} {h : Heap} (hZ : Z.Warmed39 s.vm) {a : Addr} {j : Int32} {i : Nat} {vs : List Value} (eT : T.heap = h) {v : Value} {C : String} (F : own_A Z h a (.object C) vs) (hn : ¬ j < 0) (hj : j.toNatClampNeg = i) (hv : vs[i]? = some v) (hd : decode c.code pc = .ok (.aaload, 1)) (hq : pc + 1 = q) (K : own_Go p e below P (T.setTop (mkF m q Ls (v :: st)))) : own_Go p e below P (T.setTop (mkF m pc Ls (.int j :: .ref a :: st))) := by
  subst hq
  obtain ⟨cl, A, rfl⟩ := F
  have hv' : cl.slots[j.toNatClampNeg]? = some v := by rw [hj, ← Array.getElem?_toList]; exact hv
  have hin := own_in (c := cl) hn hj (List.getElem?_eq_some_iff.mp hv).1
  exact own_via (fun t => X.aaload hx (by rw [eT]; exact A.1) (State.isArrayOf_alike hZ.alike A.2.1) rfl A.2.2 hin hv' (g := mkF m pc Ls (.int j :: .ref a :: st)) rfl rfl hd t) K
theorem own_aastore (X : Stand p l e R s m args below meth c T locs cells slots) (hx : p.tables.exec = Jvm.exec) {Z : State} {h : Heap} (hZ : Z.Warmed39 s.vm) {a : Addr} {j : Int32} {i : Nat} {vs : List Value} (eT : T.heap = h) {v : Value} (F : own_R Z h a vs) (hn : ¬ j < 0) (hj : j.toNatClampNeg = i) (hi : i < vs.length) (S : Sto Z h a v) (hd : decode c.code pc = .ok (.aastore, 1)) (hq : pc + 1 = q) (K : ∀ T' h', Stand p l e R s m args below meth c T' (locs ++ [⟨a, i⟩]) cells slots → T'.heap = h' → Wr h h' a i v → own_R Z h' a (vs.set i v) → own_Go p e below P (T'.setTop (mkF m q Ls st))) : own_Go p e below P (T.setTop (mkF m pc Ls (v :: .int j :: .ref a :: st))) := by
  subst hq hj
  have F' := F
  obtain ⟨cl, A, -, -, rfl⟩ := F
  have hin := own_in (c := cl) hn rfl hi
  obtain ⟨T', h', X', e', W', st'⟩ := stR X hx hZ eT A hin rfl S (g := mkF m pc Ls (v :: .int j :: .ref a :: st)) rfl rfl hd
  exact own_via (fun t => st' t) (K T' h' X' e' W' (F'.set W'))
theorem own_newR (X : Stand p l e R s m args below meth c T locs cells slots) (hx : p.tables.exec = Jvm.exec) {Z : State} {a0 : Array Value} {h : Heap} (hZ : Z.Warmed39 s.vm) {own : String} {i : Nat} (hown : s.vm.findClass own = some m.cls) {n : Int32} {k cap : Nat} (w1 : (Cond.classLink own i "java/lang/Object").before a0 Z = true) (w2 : (Cond.arrayOver (.object "java/lang/Object")).before a0 Z = true) (eT : T.heap = h) (hn : ¬ n < 0) (hk : n.toNatClampNeg = k) (hcap : k ≤ cap) (hb8 : cap * 8 ≤ 536870912) (hc : cells + 1 ≤ R.cells) (hl : slots + cap ≤ R.slots) (hd : decode c.code pc = .ok (.anewarray i, 3)) (hq : pc + 3 = q) (K : ∀ T' h' a, Stand p l e R s m args below meth c T' locs (cells + 1) (slots + cap) → T'.heap = h' → a = h.size → Ext h h' → own_R Z h' a (List.replicate k .null) → own_Go p e below P (T'.setTop (mkF m q Ls (.ref a :: st)))) : own_Go p e below P (T.setTop (mkF m pc Ls (.int n :: st))) := by
  subst hq hk
  have w2' : (Cond.arrayOver (.object "java/lang/Object")).before args s = true := Cond.arrayOver_alike hZ.alike w2
  obtain ⟨vm₁, cA, kA, comp, -, h1, h2, h3, h4, X', st'⟩ := X.anewarrayRefK hx hown (mv hZ w1) w2' (g := mkF m pc Ls (.int n :: st)) rfl hd rfl hn (by omega) hc (by omega)
  subst eT
  rw [hZ.alike.findClass] at h1
  obtain ⟨kZ, z1, -⟩ := Vm.findClass_spec h1
  obtain ⟨k', z2, z3⟩ := hZ.alike.2.2 _ _ z1
  cases h2.symm.trans z2
  exact own_via (fun t => st' t) (K _ _ _ (X'.more (Nat.le_refl _) (by omega)) rfl rfl (ext_of fun a q => Array.getElem?_push_lt q |>.trans (Array.getElem?_eq_getElem q).symm) ⟨{ cls := cA, slots := Array.replicate n.toNatClampNeg .null, vm := .none }, ⟨by show (T.heap.push _)[T.heap.size]? = _; simp, ⟨by simp, kZ, z1, comp, by rw [← h3, z3]⟩, by simp⟩, ⟨kZ, comp, z1, by rw [← h3, z3], by rw [← hZ.alike.findClass]; exact h4⟩, h1, by simp⟩)
theorem own_tswIn (X : Stand p l e R s m args below meth c T locs cells slots) (hx : p.tables.exec = Jvm.exec) {k : Int32} {dflt low high : Int} {offs : Array Int} {len : Nat} {o : Int} (hd : decode c.code pc = .ok (.tableswitch dflt low high offs, len)) (hin : ¬ (k.toInt < low ∨ k.toInt > high)) (hoff : offs[(k.toInt - low).toNat]? = some o) (ho : 0 ≤ (pc : Int) + o) (hp : ((pc : Int) + o).toNat = q) (K : own_Go p e below P (T.setTop (mkF m q Ls st))) : own_Go p e below P (T.setTop (mkF m pc Ls (.int k :: st))) := by
  exact own_via (fun t => XS.tswIn (g := mkF m pc Ls (.int k :: st)) (i := k) (rest := st) X.here hx rfl (pc0 := pc) (pc' := q) rfl hd rfl hin hoff ho hp) K
theorem own_tswOut (X : Stand p l e R s m args below meth c T locs cells slots) (hx : p.tables.exec = Jvm.exec) {k : Int32} {dflt low high : Int} {offs : Array Int} {len : Nat} (hd : decode c.code pc = .ok (.tableswitch dflt low high offs, len)) (hout : k.toInt < low ∨ k.toInt > high) (ho : 0 ≤ (pc : Int) + dflt) (hp : ((pc : Int) + dflt).toNat = q) (K : own_Go p e below P (T.setTop (mkF m q Ls st))) : own_Go p e below P (T.setTop (mkF m pc Ls (.int k :: st))) := by
  exact own_via (fun t => XS.tswOut (g := mkF m pc Ls (.int k :: st)) (i := k) (rest := st) X.here hx rfl (pc0 := pc) (pc' := q) rfl hd rfl hout ho hp) K
theorem own_callI (X : Stand p l e R s m args below meth c T locs cells slots) (hx : p.tables.exec = Jvm.exec) {a : Addr} {C : String} {z : MethodName} {count : Nat} {Z : State} {a0 : Array Value} {h : Heap} {own : String} {index : Nat} {y : MethodName} {bytes : ByteArray} {maxL : Nat} {ret : Option FieldType} {rm : Room} {W : Nat} {argsL : List Value} {Qc : Option Value → Heap → List Loc → Prop} {ps : List FieldType} {r : Option FieldType} {st0 : List Value} (hZ : Z.Warmed39 s.vm) (hown : s.vm.findClass own = some m.cls) (w1 : (Cond.methodLink own index y).before a0 Z = true) (w2 : (Cond.declares y).before a0 Z = true) (w5 : (Cond.interfaceMethod y.cls y.cls y.name y.desc).before a0 Z = true) (k5 : ((Cond.interfaceMethod y.cls y.cls y.name y.desc).onTables && (Cond.interfaceMethod y.cls y.cls y.name y.desc).keepsFace) = true) (w6 : (Cond.selects C y z).before a0 Z = true) (w7 : (Cond.instanceMethod z).before a0 Z = true) (w8 : (Cond.publicMethod z).before a0 Z = true) (w9 : (Cond.unhidden C y.name y.desc).before a0 Z = true) (w10 : (Cond.castable C y.cls).before a0 Z = true) (w3 : (Cond.initialized z.cls).before a0 Z = true) (w4 : (Cond.code z bytes maxL ret).before a0 Z = true) (E : Exa Z h a C) (hy : y.cls ≠ "java/lang/invoke/MethodHandle" ∧ y.cls ≠ "java/lang/invoke/VarHandle") (hM : MetFree l z (head1 [Cond.code z bytes maxL ret] rm) (fun aa U => aa = (.ref a :: argsL).toArray ∧ Z.Warmed39 U.vm ∧ U.heap = h) (fun _ _ _ _ _ => True) (fun _ U o U' => ∃ v L, o = .returned v ∧ Qc v U'.heap L ∧ FrameEnd U o U' L rm.cells rm.slots)) (hpd : parseMethodDescriptor y.desc = some ⟨ps, r⟩) (hlen : argsL.length = ps.length) (eT : T.heap = h) (hml : Ls.size = c.maxLocals) (hst : st0 = argsL.reverse ++ .ref a :: st) (hW : (st.map fun v => v.category).sum ≤ W) (hf : rm.frames + 1 ≤ R.frames) (hl : W + (maxL + 11) + rm.locals ≤ R.locals) (hc : cells + rm.cells ≤ R.cells) (hs : slots + rm.slots ≤ R.slots) (hd : decode c.code pc = .ok (.invokeinterface index count, 5)) (hq : pc + 5 = q) (K : ∀ v T' L, Stand p l e R s m args below meth c T' (locs ++ L) (cells + rm.cells) (slots + rm.slots) → Qc v T'.heap L → own_Go p e below P (T'.setTop (mkF m q Ls (v.toList ++ st)))) : own_Go p e below P (T.setTop (mkF m pc Ls st0)) := by
  subst hq hst
  obtain ⟨cq, kq, qa, qb, qc⟩ := isOf hZ eT E
  obtain ⟨v, _, ⟨T', L', k', n'⟩, -, X', ⟨Lc, hQ, l', y', z'⟩, st'⟩ := X.interfaceBack hx (xi := y) (y := z) hown (mvT hZ w1) (mvT hZ w2) (mvT hZ w5 k5) (mvT hZ w6) (mvT hZ w7) (mvT hZ w8) (mvT hZ w9) (mvT hZ w10) hy (backOf (W := W) hM hZ w4 w3 hf hl) qa qb qc (g := mkF m pc Ls (argsL.reverse ++ .ref a :: st)) rfl hml (Steps.refl _) (argsL := argsL) (rest := st) (lenOf hpd hlen) rfl (by show 2 * 0 + _ ≤ _; omega) hd (fun _ _ => ⟨rfl, eT, hc, hs⟩)
  dsimp only [Pt.U, Pt.locs, Pt.cells, Pt.slots] at X' l' y' z' st' hQ
  subst l' y' z'
  exact own_via (fun t => st'.trans) (K v T' Lc X' hQ)
theorem own_callQ (X : Stand p l e R s m args below meth c T locs cells slots) (hx : p.tables.exec = Jvm.exec) {a : Addr} {C : String} {Z : State} {a0 : Array Value} {h : Heap} {own : String} {index : Nat} {y : MethodName} {bytes : ByteArray} {maxL : Nat} {ret : Option FieldType} {rm : Room} {W : Nat} {argsL : List Value} {Qc : Option Value → Heap → List Loc → Prop} {ps : List FieldType} {r : Option FieldType} {st0 : List Value} (hZ : Z.Warmed39 s.vm) (hown : s.vm.findClass own = some m.cls) (w1 : (Cond.methodLink own index y).before a0 Z = true) (w7 : (Cond.instanceMethod y).before a0 Z = true) (w5 : (Cond.selects y.cls y y).before a0 Z = true) (w8 : (Cond.privateMethod y).before a0 Z = true) (w3 : (Cond.initialized y.cls).before a0 Z = true) (w4 : (Cond.code y bytes maxL ret).before a0 Z = true) (E : Exa Z h a C) (hy : y.cls ≠ "java/lang/invoke/MethodHandle" ∧ y.cls ≠ "java/lang/invoke/VarHandle") (hM : MetFree l y (head1 [Cond.code y bytes maxL ret] rm) (fun aa U => aa = (.ref a :: argsL).toArray ∧ Z.Warmed39 U.vm ∧ U.heap = h) (fun _ _ _ _ _ => True) (fun _ U o U' => ∃ v L, o = .returned v ∧ Qc v U'.heap L ∧ FrameEnd U o U' L rm.cells rm.slots)) (hpd : parseMethodDescriptor y.desc = some ⟨ps, r⟩) (hlen : argsL.length = ps.length) (eT : T.heap = h) (hml : Ls.size = c.maxLocals) (hst : st0 = argsL.reverse ++ .ref a :: st) (hW : (st.map fun v => v.category).sum ≤ W) (hf : rm.frames + 1 ≤ R.frames) (hl : W + (maxL + 11) + rm.locals ≤ R.locals) (hc : cells + rm.cells ≤ R.cells) (hs : slots + rm.slots ≤ R.slots) (hd : decode c.code pc = .ok (.invokevirtual index, 3)) (hq : pc + 3 = q) (K : ∀ v T' L, Stand p l e R s m args below meth c T' (locs ++ L) (cells + rm.cells) (slots + rm.slots) → Qc v T'.heap L → own_Go p e below P (T'.setTop (mkF m q Ls (v.toList ++ st)))) : own_Go p e below P (T.setTop (mkF m pc Ls st0)) := by
  subst hq hst
  obtain ⟨cq, kq, qa, qb, cl, qc, qd, qe⟩ := isOf hZ eT E
  obtain ⟨v, _, ⟨T', L', k', n'⟩, -, X', ⟨Lc, hQ, l', y', z'⟩, st'⟩ := X.privateBack hx (y := y) hown (mvT hZ w1) (mvT hZ w7) (mvT hZ w5) (Cond.privateMethod_at (mvP (args := args) hZ w8)) (mvT hZ w4) hy (backOf (W := W) hM hZ w4 w3 hf hl) (g := mkF m pc Ls (argsL.reverse ++ .ref a :: st)) rfl hml (Steps.refl _) qc (fun q z => by rw [z] at qe; cases qe) (argsL := argsL) (rest := st) (lenOf hpd hlen) rfl (by show 2 * 0 + _ ≤ _; omega) hd (fun _ _ => ⟨rfl, eT, hc, hs⟩)
  dsimp only [Pt.U, Pt.locs, Pt.cells, Pt.slots] at X' l' y' z' st' hQ
  subst l' y' z'
  exact own_via (fun t => st'.trans) (K v T' Lc X' hQ)
theorem own_callIP (X : Stand p l e R s m args below meth c T locs cells slots) (hx : p.tables.exec = Jvm.exec) {a : Addr} {C : String} {z : MethodName} {count : Nat} {Z : State} {a0 : Array Value} {h : Heap} {own : String} {index : Nat} {y : MethodName} {bytes : ByteArray} {maxL : Nat} {ret : Option FieldType} {W : Nat} {argsL : List Value} {fr lo : Nat} {w : Value} {ps : List FieldType} {r : Option FieldType} {st0 : List Value} (hZ : Z.Warmed39 s.vm) (hown : s.vm.findClass own = some m.cls) (w1 : (Cond.methodLink own index y).before a0 Z = true) (w2 : (Cond.declares y).before a0 Z = true) (w5 : (Cond.interfaceMethod y.cls y.cls y.name y.desc).before a0 Z = true) (k5 : ((Cond.interfaceMethod y.cls y.cls y.name y.desc).onTables && (Cond.interfaceMethod y.cls y.cls y.name y.desc).keepsFace) = true) (w6 : (Cond.selects C y z).before a0 Z = true) (w7 : (Cond.instanceMethod z).before a0 Z = true) (w8 : (Cond.publicMethod z).before a0 Z = true) (w9 : (Cond.unhidden C y.name y.desc).before a0 Z = true) (w10 : (Cond.castable C y.cls).before a0 Z = true) (w3 : (Cond.initialized z.cls).before a0 Z = true) (w4 : (Cond.code z bytes maxL ret).before a0 Z = true) (E : Exa Z h a C) (hy : y.cls ≠ "java/lang/invoke/MethodHandle" ∧ y.cls ≠ "java/lang/invoke/VarHandle") (hM : MetFree l z (head1 [Cond.code z bytes maxL ret] ({ frames := fr, cells := 0, slots := 0, locals := lo } : Room)) (fun aa U => aa = (.ref a :: argsL).toArray ∧ Z.Warmed39 U.vm ∧ U.heap = h) (fun _ _ _ _ _ => True) (fun _ U o U' => ∃ v L, o = .returned v ∧ own_P w h v U'.heap L ∧ FrameEnd U o U' L 0 0)) (hpd : parseMethodDescriptor y.desc = some ⟨ps, r⟩) (hlen : argsL.length = ps.length) (eT : T.heap = h) (hml : Ls.size = c.maxLocals) (hst : st0 = argsL.reverse ++ .ref a :: st) (hW : (st.map fun v => v.category).sum ≤ W) (hf : fr + 1 ≤ R.frames) (hl : W + (maxL + 11) + lo ≤ R.locals) (hc : cells ≤ R.cells) (hs : slots ≤ R.slots) (hd : decode c.code pc = .ok (.invokeinterface index count, 5)) (hq : pc + 5 = q) (K : ∀ T', Stand p l e R s m args below meth c T' locs cells slots → T'.heap = h → own_Go p e below P (T'.setTop (mkF m q Ls (w :: st)))) : own_Go p e below P (T.setTop (mkF m pc Ls st0)) := by
  refine own_callI X hx hZ hown w1 w2 w5 k5 w6 w7 w8 w9 w10 w3 w4 E hy hM hpd hlen eT hml hst hW hf hl hc hs hd hq fun v T' L X' hQ => ?_
  obtain ⟨rfl, eh, rfl⟩ := hQ
  rw [List.append_nil] at X'
  exact K T' X' eh
end OwnKitR

theorem own_rB : tables_1.all Jvm.Free.XT.rB = true := by decide +kernel
theorem own_ws {Z s : State} {a0 args : Array Value} (hZ : Z.Warmed39 s.vm) (hw : ∀ d ∈ tables_1, d.before a0 Z = true) : ∀ d ∈ tables_1, d.before args s = true := fun d hd => Jvm.Free.XT.wide_of hZ d (List.all_eq_true.mp own_rB d hd) (hw d hd)
theorem own_tabs {Z s : State} {a0 args : Array Value} (hZ : Z.Warmed39 s.vm) (hw : ∀ d ∈ tables_1, d.before a0 Z = true) (L : List Cond) (hL : (Jvm.Free.ALB.atomsOf L).all (fun w => tables_1.contains w) = true) : ∀ c ∈ L, c.before args s = true :=
  Jvm.Free.ALB.holds_of_flat hL (own_ws hZ hw)
def own_cp (vs : List Value) (k : Nat) : List Value := vs.take k ++ List.replicate (k - vs.length) .null
section OwnHand
variable {p : Program} {l : Launch} {e : Env} {R : Room} {s : State} {m : MethodId} {args : Array Value} {below : List Frame} {meth : Method} {c : Code} {T : State} {locs : List Loc} {cells slots kc ks : Nat} {Q : Option Value → Heap → List Loc → Prop} {P : Outcome → State → Prop} {pc q : Nat} {Ls L' : Array Slot} {st : List Value}
theorem own_stretch (cs : Cell) {cA : ClassId} {n : Int32} (h0 : 0 ≤ n.toInt) (hs : cs.slots.size < 2 ^ 31) :
    (copied cs ({ cls := cA, slots := Array.replicate n.toNatClampNeg .null, vm := .none } : Cell) 0 0 (if n < cs.slots.size.toInt32 then n else cs.slots.size.toInt32)).slots.toList = own_cp cs.slots.toList n.toNatClampNeg := by
  have e1 : cs.slots.size.toInt32.toInt = cs.slots.size := len_toInt (by omega)
  have e2 : n.toNatClampNeg = n.toInt.toNat := rfl
  obtain ⟨k, hk, hk2⟩ : ∃ k : Nat, (if n < cs.slots.size.toInt32 then n else cs.slots.size.toInt32) = Int32.ofNat k ∧ k = min n.toNatClampNeg cs.slots.size := by
    refine ⟨min n.toNatClampNeg cs.slots.size, ?_, rfl⟩
    have r := rng32 n
    rw [← Int32.toInt_inj, Int32.toInt_ofNat_of_lt (by omega)]
    split
    · rename_i h; rw [Int32.lt_iff_toInt_lt, e1] at h; omega
    · rename_i h; rw [Int32.lt_iff_toInt_lt, e1] at h; rw [e1]; omega
  rw [hk]
  have r := rng32 n
  refine List.ext_getElem? fun j => ?_
  rw [Array.getElem?_toList]
  have := Jvm.Free.SBG.copied_at (cs := cs) (cd := ({ cls := cA, slots := Array.replicate n.toNatClampNeg .null, vm := .none } : Cell)) (p := 0) (n := k) (by omega) (by omega) (by simp; omega) j
  rw [show (Int32.ofNat 0) = 0 from rfl] at this
  rw [this, own_cp, List.getElem?_append, List.getElem?_take]
  simp only [List.length_take, Array.length_toList, Array.getElem?_replicate, List.getElem?_replicate, Nat.zero_add, Nat.zero_le, true_and, Nat.sub_zero, Array.getElem?_toList]
  subst hk2
  by_cases h1 : j < min n.toNatClampNeg cs.slots.size
  · rw [if_pos h1, if_pos h1, if_pos (by omega)]
    simp only [Array.getD, dif_pos (show j < cs.slots.size by omega)]
    exact (Array.getElem?_eq_getElem (by omega)).symm
  · rw [if_neg h1, if_neg h1]
    by_cases h2 : j < n.toNatClampNeg
    · rw [if_pos h2, if_pos (by omega)]
    · rw [if_neg h2, if_neg (by omega)]
def own_El (Z : State) (h : Heap) (vs : List Value) : Prop := ∀ v ∈ vs, v = .null ∨ ∃ b, v = .ref b ∧ Ins Z h b "java/lang/Object" true
theorem own_copyP {Z : State} {h : Heap} {ea : Addr} {cs : Cell} {n : Int32} {K : Nat} (hAR : ∃ cAR, Z.vm.findClass "java/util/Arrays" = some cAR) (hmir : Jvm.ShelfD.MirrorMade Z "[Ljava/lang/Object;") (A : Arr Z h ea cs (.object "java/lang/Object")) (O : Ovr Z cs.cls "java/lang/Object") (f : Z.vm.findClass "[Ljava/lang/Object;" = some cs.cls) (hel : own_El Z h cs.slots.toList) (h0 : 0 ≤ n.toInt) (hK : n.toNatClampNeg ≤ K) (hK4 : K ≤ 1000) (hs : cs.slots.size < 2 ^ 31) :
    ∃ g : Jvm.Free.CopyOfC.Copy3.G, g.orig = ea ∧ g.cs = cs ∧ g.n = n ∧ g.cOA = cs.cls ∧ ∀ U : State, Z.vm.Alike U.vm → U.heap = h → Jvm.Free.CopyOfC.Copy3.P K g #[.ref ea, .int n, .ref g.mir] U := by
  obtain ⟨cAR, hAR⟩ := hAR
  obtain ⟨c1, k1, mr, m1, m2, m3⟩ := hmir
  cases f.symm.trans m1
  obtain ⟨kO, comp, o1, o2, o3⟩ := O
  cases m2.symm.trans o1
  obtain ⟨kc, q3⟩ := Vm.classAt_of_findClass o3
  refine ⟨⟨ea, cs, n, mr, cs.cls, comp, cAR⟩, rfl, rfl, rfl, rfl, fun U hal hh => ?_⟩
  obtain ⟨k', q1, q2⟩ := hal.2.2 _ _ m2
  obtain ⟨kc', q4, -⟩ := hal.2.2 _ _ q3
  refine ⟨rfl, by rw [hh]; exact A.1, A.2.2, A.2.1.1, ⟨k', comp, _, q1, by rw [q2]; exact o2, rfl⟩, by rw [hal.findClass]; exact f, ⟨k', q1, by rw [q2]; exact o2, by rw [q2]; exact m3⟩, by rw [hal.findClass]; exact o3, ⟨kc', q4⟩, by rw [hal.findClass]; exact hAR, h0, hK, by show n.toNatClampNeg * 4 ≤ _; omega, hs, fun i hi => ?_⟩
  have hi' : i < cs.slots.size := hi
  refine ⟨cs.slots[i], Array.getElem?_eq_getElem hi', ?_⟩
  rcases hel cs.slots[i] (Array.getElem_mem_toList hi') with e | ⟨b, e, cv, cT, i1, i2, i3⟩
  · exact Or.inl e
  · simp only [Bool.and_eq_true, Bool.not_eq_true'] at i3
    cases o3.symm.trans i2
    obtain ⟨kv, w1⟩ := Vm.classAt_of_assignable i3.2 ⟨kc, q3⟩
    obtain ⟨kv', w2, -⟩ := hal.2.2 _ _ w1
    exact Or.inr ⟨b, cv, e, by rw [hh]; exact i1, (fun q z => by rw [z] at i3; cases i3.1), ⟨kv', w2⟩, by rw [hal.assignable]; exact i3.2⟩

theorem own_copy2 (X : Stand p l e R s m args below meth c T locs cells slots) (hx : p.tables.exec = Jvm.exec) {Z : State} {a0 : Array Value} {h : Heap} {own : String} {index : Nat} (hZ : Z.Warmed39 s.vm) (hown : s.vm.findClass own = some m.cls) (hw : ∀ d ∈ tables_1, d.before a0 Z = true) (w1 : (Cond.methodLink own index Jvm.Free.CopyOfC.copy2N).before a0 Z = true) (hmir : Jvm.ShelfD.MirrorMade Z "[Ljava/lang/Object;") {ea : Addr} {vs : List Value} {n : Int32} {k W : Nat} (eT : T.heap = h) (F : own_R Z h ea vs) (hel : own_El Z h vs) (h0 : 0 ≤ n.toInt) (hk : n.toNatClampNeg = k) (hk2 : k ≤ 1000) (hv : vs.length ≤ 1000) (hml : Ls.size = c.maxLocals) (hW : (st.map fun v => v.category).sum ≤ W) (hf : 4 ≤ R.frames) (hl : W + 77 ≤ R.locals) (hc : cells + 1 ≤ R.cells) (hs : slots + k ≤ R.slots) (hd : decode c.code pc = .ok (.invokestatic index, 3)) (hq : pc + 3 = q)
    (K : ∀ T' h' a, Stand p l e R s m args below meth c T' locs (cells + 1) (slots + k) → T'.heap = h' → a = h.size → Ext h h' → own_R Z h' a (own_cp vs k) → own_Go p e below P (T'.setTop (mkF m q Ls (.ref a :: st)))) : own_Go p e below P (T.setTop (mkF m pc Ls (.int n :: .ref ea :: st))) := by
  subst hq hk
  obtain ⟨cs, A, O, f, rfl⟩ := F
  rw [Array.length_toList] at hv
  have hAR : ∃ cAR, Z.vm.findClass "java/util/Arrays" = some cAR := by
    have h1 := hw (Cond.initialized "java/util/Arrays") (by decide +kernel)
    cases hfc : Z.vm.findClass "java/util/Arrays" with
    | none => simp [Cond.before, Cond.holds, Cond.value, hfc] at h1
    | some c => exact ⟨c, rfl⟩
  have tb : ∀ (a : Array Value) (U : State), Z.Warmed39 U.vm → Jvm.Free.CopyOfC.Copy2.tab.before a U = true := fun a U h => own_tabs h hw [Jvm.Free.CopyOfC.Copy2.tab] (by decide +kernel) _ (List.mem_singleton_self _)
  obtain ⟨g, g1, g2, g3, g4, g5⟩ := own_copyP (n := n) (K := n.toNatClampNeg) hAR hmir A O f hel h0 (Nat.le_refl _) hk2 (by omega)
  obtain ⟨v, vm1, ⟨T', L', k', n'⟩, hW1, X', ⟨h1, h2, h3, h4, h5, h6⟩, st'⟩ := Jvm.LawKit.callS X hx hown (mvT hZ w1) (mvT hZ (hw (Cond.static Jvm.Free.CopyOfC.copy2N) (by decide +kernel))) (mvT hZ (hw (Cond.initialized "java/util/Arrays") (by decide +kernel))) (mvT hZ (hw (Cond.code Jvm.Free.CopyOfC.copy2N jdk_65_method_119_code 2 (some (.array (.object "java/lang/Object")))) (by decide +kernel))) (by decide) (Jvm.Free.CopyOfC.Copy2.pays (W := W) n.toNatClampNeg g (tb args s hZ) hf hl) (g := mkF m pc Ls (.int n :: .ref ea :: st)) rfl hml (argsL := [.ref ea, .int n]) (rest := st) (lenOf (ps := [.array (.object "java/lang/Object"), .int]) (r := some (.array (.object "java/lang/Object"))) (by decide +kernel) rfl) rfl (by show 2 * 0 + _ ≤ _; omega) hd (fun vm1 hW1 => ⟨hc, hs, by subst g1 g3; exact ⟨rfl, g5 _ (State.Warmed39.alike (wtrans (U := T.setVm vm1) hZ hW1)) eT, Jvm.Free.CopyOfC.Copy2.notFace_at (tb #[] (T.setVm vm1) (wtrans hZ hW1)), by rw [g2, g4]⟩⟩)
  dsimp only [Pt.U, Pt.locs, Pt.cells, Pt.slots] at X' h1 h2 h3 h4 h5 h6 st'
  subst h1 h3 h4 h5
  have hsz : T.heap.size ≤ T'.heap.size := Nat.le_of_lt (Array.getElem?_eq_some_iff.mp h2).1
  refine own_via (fun t => st' t) (K T' T'.heap _ (by rw [← g3]; exact X') rfl (by rw [← eT]; rfl) ⟨by rw [← eT]; exact hsz, fun a c hc => h6 a c (by rw [← eT] at hc; exact hc)⟩ ?_)
  have e1 : Jvm.Free.CopyOfC.Copy3.fresh g = ({ cls := cs.cls, slots := Array.replicate n.toNatClampNeg .null, vm := .none } : Cell) := by unfold Jvm.Free.CopyOfC.Copy3.fresh; rw [g4, g3]
  have e2 : Jvm.Free.CopyOfC.Copy3.mn g = (if n < cs.slots.size.toInt32 then n else cs.slots.size.toInt32) := by unfold Jvm.Free.CopyOfC.Copy3.mn; rw [g2, g3]
  have q := own_stretch cs (cA := cs.cls) (n := n) h0 (by omega)
  have ff := Jvm.Free.SB.copied_facts cs (Jvm.Free.CopyOfC.Copy3.fresh g) 0 0 (Jvm.Free.CopyOfC.Copy3.mn g)
  rw [← e1, ← e2] at q
  rw [g2] at h2
  refine ⟨_, ⟨h2, ?_, by rw [ff.2.1, e1]; simp⟩, by rw [ff.1, e1]; exact O, by rw [ff.1, e1]; exact f, q⟩
  obtain ⟨a1, k1, a2, cp, a3⟩ := A.2.1
  exact ⟨fun q z => (by rw [ff.2.1, e1] at z; cases z), k1, by rw [ff.1, e1]; exact a2, cp, a3⟩

theorem own_l1 {a : Array Value} {v : Value} (h : a.size = 1) (h0 : a[0]? = some v) : a.toList = [v] := by
  refine List.ext_getElem? fun i => ?_
  rw [Array.getElem?_toList]
  rcases i with _ | i
  · exact h0
  · rw [Array.getElem?_eq_none (by omega)]; rfl
theorem own_l2 {a : Array Value} {v w : Value} (h : a.size = 2) (h0 : a[0]? = some v) (h1 : a[1]? = some w) : a.toList = [v, w] := by
  refine List.ext_getElem? fun i => ?_
  rw [Array.getElem?_toList]
  rcases i with _ | _ | i
  · exact h0
  · exact h1
  · rw [Array.getElem?_eq_none (by omega)]; rfl
theorem own_l3 {a b : Array Value} (h : a.size = b.size) (h2 : ∀ j, j < b.size → a[j]? = b[j]?) : b.toList = a.toList := by
  refine List.ext_getElem? fun i => ?_
  rw [Array.getElem?_toList, Array.getElem?_toList]
  by_cases hi : i < b.size
  · exact (h2 i hi).symm
  · rw [Array.getElem?_eq_none (by omega), Array.getElem?_eq_none (by omega)]
theorem own_extof {h h' : Heap} (st : ∀ (y : Addr) (cy : Cell), h[y]? = some cy → h'[y]? = some cy) : Ext h h' := by
  refine ⟨Nat.le_of_not_lt fun hlt => ?_, st⟩
  exact absurd (Array.getElem?_eq_some_iff.mp (st h'.size _ (Array.getElem?_eq_getElem hlt))).1 (Nat.lt_irrefl _)

def own_I (Z : State) (h : Heap) (em r : Addr) (vs : List Value) : Prop := ∃ U : State, Z.vm.Alike U.vm ∧ U.heap = h ∧ Jvm.Free.LOB.Imm em r vs U
theorem own_I.at {Z U : State} {h h' : Heap} {em r : Addr} {vs : List Value} (F : own_I Z h em r vs) (hal : Z.vm.Alike U.vm) (E : Ext h h') (hh : U.heap = h') : Jvm.Free.LOB.Imm em r vs U := by
  obtain ⟨U0, a, b, c⟩ := F
  exact c.move (a.symm.trans hal) (fun y cy hy => by rw [hh]; exact E.2 y cy (by rw [← b]; exact hy))
theorem own_StIs {Z U : State} {h : Heap} {C n d : String} {v : Value} (F : Sta Z h C n d v) (hal : Z.vm.Alike U.vm) (hh : U.heap = h) : Jvm.Lib.Cold.StaticIs U C n d v := by
  obtain ⟨cf, i, k, f, st, cell, h1, h2, h3, h4, h5, h6, h7⟩ := F
  obtain ⟨k', h1', ek⟩ := State.fieldFound?_setVm (s := Z) (vm' := U.vm) hal h1
  exact ⟨cf, i, k', f, st, cell, h1', h2, by rw [ek]; exact h3, by rw [ek]; exact h4, by rw [hh]; exact h5, (fun z => by rw [z] at h6; cases h6), h7⟩
theorem own_ofArr (X : Stand p l e R s m args below meth c T locs cells slots) (hx : p.tables.exec = Jvm.exec) {Z : State} {a0 : Array Value} {h : Heap} {own : String} {index : Nat} (hZ : Z.Warmed39 s.vm) (hown : s.vm.findClass own = some m.cls) (hw : ∀ d ∈ tables_1, d.before a0 Z = true) (w1 : (Cond.methodLink own index Jvm.Free.LOB.OfArr.yN).before a0 Z = true) {ia em : Addr} {vs : List Value} {k W : Nat} (eT : T.heap = h) (F : own_R Z h ia vs) (hel : ∀ v ∈ vs, ∃ b, v = .ref b ∧ Ins Z h b "java/lang/Object" true) (h1 : 1 ≤ vs.length) (hk : vs.length ≤ k) (hk2 : k ≤ 1000) (hS : Sta Z h "java/util/ImmutableCollections" "EMPTY" "Ljava/lang/Object;" (.ref em)) (hne : vs.length = 2 → vs[1]? ≠ some (.ref em)) (hml : Ls.size = c.maxLocals) (hW : (st.map fun v => v.category).sum ≤ W) (hf : 7 ≤ R.frames) (hl : W + 103 ≤ R.locals) (hc : cells + 2 ≤ R.cells) (hs : slots + (k + 2) ≤ R.slots) (hd : decode c.code pc = .ok (.invokestatic index, 3)) (hq : pc + 3 = q)
    (K : ∀ T' h' r, Stand p l e R s m args below meth c T' locs (cells + 2) (slots + (k + 2)) → T'.heap = h' → Ext h h' → own_I Z h' em r vs → own_Go p e below P (T'.setTop (mkF m q Ls (.ref r :: st)))) : own_Go p e below P (T.setTop (mkF m pc Ls (.ref ia :: st))) := by
  subst hq
  obtain ⟨cs, A, ⟨kO, comp, o1, o2, o3⟩, f, rfl⟩ := F
  rw [Array.length_toList] at h1 hk hne
  have tb : Jvm.Free.LOB.OfArr.tabA.before args s = true := own_tabs hZ hw [Jvm.Free.LOB.OfArr.tabA] (by decide +kernel) _ (List.mem_singleton_self _)
  have key : ∀ U : State, Z.vm.Alike U.vm → U.heap = h → Jvm.Free.LOB.OfArr.PA k ia cs comp em #[.ref ia] U := fun U hal hh => by
    refine ⟨⟨rfl, by rw [hh]; exact A.1, State.isArrayOf_alike hal A.2.1, A.2.2, hk, by omega, by rw [hal.findClass]; exact o3, fun j hj => ?_⟩, h1, own_StIs hS hal hh⟩
    obtain ⟨b, e1, cv, cT, i1, i2, i3⟩ := hel cs.slots[j] (Array.getElem_mem_toList hj)
    simp only [Bool.and_eq_true, Bool.not_eq_true'] at i3
    cases o3.symm.trans i2
    obtain ⟨kc, q3⟩ := Vm.classAt_of_findClass o3
    obtain ⟨kv, w1⟩ := Vm.classAt_of_assignable i3.2 ⟨kc, q3⟩
    obtain ⟨kv', w2, -⟩ := hal.2.2 _ _ w1
    exact ⟨b, cv, kv', by rw [Array.getElem?_eq_getElem hj, e1], by rw [hh]; exact i1, (fun q z => by rw [z] at i3; cases i3.1), w2, by rw [hal.assignable]; exact i3.2⟩
  obtain ⟨v, vm1, ⟨T', L', k', n'⟩, hW1, X', ⟨r, k0, n0, h1', hG, h3, h4, h5⟩, st'⟩ := Jvm.LawKit.callS X hx hown (mvT hZ w1) (mvT hZ (hw (Cond.static Jvm.Free.LOB.OfArr.yN) (by decide +kernel))) (mvT hZ (hw (Cond.initialized "java/util/List") (by decide +kernel))) (mvT hZ (hw (Cond.code Jvm.Free.LOB.OfArr.yN jdk_40_method_47_code 2 (some (.object "java/util/List"))) (by decide +kernel))) (by decide) (Jvm.Free.LOB.OfArr.anyPays (W := W) k ia cs comp em tb hf hl) (g := mkF m pc Ls (.ref ia :: st)) rfl hml (argsL := [.ref ia]) (rest := st) (lenOf (ps := [.array (.object "java/lang/Object")]) (r := some (.object "java/util/List")) (by decide +kernel) rfl) rfl (by show 2 * 0 + _ ≤ _; omega) hd (fun vm1 hW1 => ⟨hc, hs, key _ (State.Warmed39.alike (wtrans (U := T.setVm vm1) hZ hW1)) eT⟩)
  dsimp only [Pt.U, Pt.locs, Pt.cells, Pt.slots] at X' h1' h3 h4 h5 st' hG
  subst h1' h3 h4 h5
  have hal : Z.vm.Alike T'.vm := State.Warmed39.alike (wtrans hZ X'.warmed)
  obtain ⟨hc3, stay⟩ := hG
  have hb : k0 ≤ 2 ∧ n0 ≤ k + 2 := by
    rcases hc3 with ⟨_, rfl, rfl, _⟩ | ⟨_, rfl, rfl, _⟩ | ⟨_, rfl, rfl, _⟩ <;> omega
  have hE : Ext h T'.heap := by
    have st2 : ∀ (y : Addr) (cy : Cell), h[y]? = some cy → T'.heap[y]? = some cy := fun y cy hy => stay y cy (by rw [← eT] at hy; exact hy)
    exact own_extof st2
  refine own_via (fun t => st' t) (K T' T'.heap r (X'.more (by omega) (by omega)) rfl hE ⟨T', hal, rfl, ?_⟩)
  rcases hc3 with ⟨e1, -, -, -, e0, D, f0, f1, hs0, hA, hI⟩ | ⟨e2, -, -, -, e0, e1', D, f0, f1, hs0, hs1, hA, hI⟩ | ⟨h3, -, -, rfl, Tm, D, fE, t0, t1, t2, hL, -⟩
  · exact Or.inl ⟨D, f0, f1, .ref e0, own_l1 e1 hs0, hA, hI⟩
  · exact Or.inr (Or.inl ⟨D, f0, f1, .ref e0, .ref e1', own_l2 e2 hs0 hs1, fun z => hne e2 (by rw [Array.getElem?_toList, hs1, z]), hA, hI⟩)
  · exact Or.inr (Or.inr ⟨⟨_, D, fE, _, Tm⟩, rfl, own_l3 t1 t2, Jvm.Free.LOB.LnAt.toLists hL (by rw [t1]; omega)⟩)

theorem own_immSize (X : Stand p l e R s m args below meth c T locs cells slots) (hx : p.tables.exec = Jvm.exec) {Z : State} {a0 : Array Value} {h : Heap} {own : String} {index count : Nat} (hZ : Z.Warmed39 s.vm) (hown : s.vm.findClass own = some m.cls) (hw : ∀ d ∈ tables_1, d.before a0 Z = true) (hW0 : (Jvm.Free.ALB.atomsOf (Jvm.Free.LOB.immSizeW own index)).all (fun w => tables_1.contains w) = true) {em b : Addr} {vs : List Value} {W : Nat} {n : Int32} (eT : T.heap = h) (F : own_I Z h em b vs) (hS : Sta Z h "java/util/ImmutableCollections" "EMPTY" "Ljava/lang/Object;" (.ref em)) (hn : Int32.ofNat vs.length = n) (hml : Ls.size = c.maxLocals) (hW : (st.map fun v => v.category).sum ≤ W) (hf : 2 ≤ R.frames) (hl : W + 32 ≤ R.locals) (hc : cells ≤ R.cells) (hs : slots ≤ R.slots) (hd : decode c.code pc = .ok (.invokeinterface index count, 5)) (hq : pc + 5 = q)
    (K : ∀ T', Stand p l e R s m args below meth c T' locs cells slots → T'.heap = h → own_Go p e below P (T'.setTop (mkF m q Ls (.int n :: st)))) : own_Go p e below P (T.setTop (mkF m pc Ls (.ref b :: st))) := by
  subst hq hn
  have hal : Z.vm.Alike T.vm := State.Warmed39.alike (wtrans hZ X.warmed)
  obtain ⟨vm1, ⟨T', L', k', n'⟩, hW1, X', ⟨h1, h2, h3, h4⟩, st'⟩ := X.immSize hx hown (own_tabs hZ hw _ hW0) (W := W) hf hl hc hs (F.at hal ⟨Nat.le_refl _, fun _ _ h => h⟩ eT) (own_StIs hS hal eT) (g := mkF m pc Ls (.ref b :: st)) rfl hml (Steps.refl _) (rest := st) rfl (by show 2 * 0 + _ ≤ _; omega) hd
  dsimp only [Pt.U, Pt.locs, Pt.cells, Pt.slots] at X' h1 h2 h3 h4 st'
  subst h2 h3 h4
  exact own_via (fun t => st'.trans) (K T' X' (h1.trans eT))
theorem own_immGet (X : Stand p l e R s m args below meth c T locs cells slots) (hx : p.tables.exec = Jvm.exec) {Z : State} {a0 : Array Value} {h : Heap} {own : String} {index count : Nat} (hZ : Z.Warmed39 s.vm) (hown : s.vm.findClass own = some m.cls) (hw : ∀ d ∈ tables_1, d.before a0 Z = true) (hW0 : (Jvm.Free.ALB.atomsOf (Jvm.Free.LOB.immGetW own index)).all (fun w => tables_1.contains w) = true) {em b y : Addr} {vs : List Value} {W i : Nat} {n : Int32} (eT : T.heap = h) (F : own_I Z h em b vs) (hS : Sta Z h "java/util/ImmutableCollections" "EMPTY" "Ljava/lang/Object;" (.ref em)) (hn : Int32.ofNat i = n) (hv : vs[i]? = some (.ref y)) (hml : Ls.size = c.maxLocals) (hW : (st.map fun v => v.category).sum ≤ W) (hf : 2 ≤ R.frames) (hl : W + 33 ≤ R.locals) (hc : cells ≤ R.cells) (hs : slots ≤ R.slots) (hd : decode c.code pc = .ok (.invokeinterface index count, 5)) (hq : pc + 5 = q)
    (K : ∀ T', Stand p l e R s m args below meth c T' locs cells slots → T'.heap = h → own_Go p e below P (T'.setTop (mkF m q Ls (.ref y :: st)))) : own_Go p e below P (T.setTop (mkF m pc Ls (.int n :: .ref b :: st))) := by
  subst hq hn
  have hal : Z.vm.Alike T.vm := State.Warmed39.alike (wtrans hZ X.warmed)
  obtain ⟨vm1, ⟨T', L', k', n'⟩, hW1, X', ⟨h1, h2, h3, h4⟩, st'⟩ := X.immGet hx hown (own_tabs hZ hw _ hW0) (W := W) hf hl hc hs (F.at hal ⟨Nat.le_refl _, fun _ _ h => h⟩ eT) (own_StIs hS hal eT) hv rfl (g := mkF m pc Ls (.int (Int32.ofNat i) :: .ref b :: st)) rfl hml (Steps.refl _) (rest := st) rfl (by show 2 * 0 + _ ≤ _; omega) hd
  dsimp only [Pt.U, Pt.locs, Pt.cells, Pt.slots] at X' h1 h2 h3 h4 st'
  subst h2 h3 h4
  exact own_via (fun t => st'.trans) (K T' X' (h1.trans eT))

theorem own_copy2c (X : Stand p l e R s m args below meth c T locs cells slots) (hx : p.tables.exec = Jvm.exec) {Z : State} {a0 : Array Value} {h : Heap} {own : String} {index : Nat} (hZ : Z.Warmed39 s.vm) (hown : s.vm.findClass own = some m.cls) (hw : ∀ d ∈ tables_1, d.before a0 Z = true) (w1 : (Cond.methodLink own index Jvm.Free.CopyOfC.copy2N).before a0 Z = true) (hmir : Jvm.ShelfD.MirrorMade Z "[Ljava/lang/Object;") {ea : Addr} {vs : List Value} {n : Int32} {cap W : Nat} (eT : T.heap = h) (F : own_R Z h ea vs) (hel : own_El Z h vs) (h0 : 0 ≤ n.toInt) (hk : n.toNatClampNeg ≤ cap) (hk2 : cap ≤ 1000) (hv : vs.length ≤ 1000) (hml : Ls.size = c.maxLocals) (hW : (st.map fun v => v.category).sum ≤ W) (hf : 4 ≤ R.frames) (hl : W + 77 ≤ R.locals) (hc : cells + 1 ≤ R.cells) (hs : slots + cap ≤ R.slots) (hd : decode c.code pc = .ok (.invokestatic index, 3)) (hq : pc + 3 = q)
    (K : ∀ T' h' a, Stand p l e R s m args below meth c T' locs (cells + 1) (slots + cap) → T'.heap = h' → a = h.size → Ext h h' → own_R Z h' a (own_cp vs n.toNatClampNeg) → own_Go p e below P (T'.setTop (mkF m q Ls (.ref a :: st)))) : own_Go p e below P (T.setTop (mkF m pc Ls (.int n :: .ref ea :: st))) :=
  own_copy2 X hx hZ hown hw w1 hmir eT F hel h0 rfl (by omega) hv hml hW hf hl hc (by omega) hd hq (fun T' h' a X' => K T' h' a (X'.more (Nat.le_refl _) (by omega)))

theorem own_I.ext {Z : State} {h h' : Heap} {em r : Addr} {vs : List Value} (F : own_I Z h em r vs) (E : Ext h h') : own_I Z h' em r vs := by
  obtain ⟨U, a, b, c⟩ := F
  exact ⟨{ U with heap := h' }, a, rfl, c.move (U' := { U with heap := h' }) (Vm.Alike.refl _) (fun y cy hy => E.2 y cy (by rw [← b]; exact hy))⟩
theorem own_I.keep {Z : State} {h h' : Heap} {em r : Addr} {vs : List Value} (F : own_I Z h em r vs) (K : Keep h h' []) : own_I Z h' em r vs := F.ext ⟨K.1, fun x c q => K.2.1 x c q (fun z => by cases z)⟩

theorem own_neC {Z : State} {h : Heap} {a b : Addr} {C D : String} (A : Exa Z h a C) (B : Exa Z h b D) (hCD : C ≠ D) : a ≠ b := fun e => by
  subst e
  obtain ⟨c1, k1, a1, a2, -⟩ := A
  obtain ⟨c2, k2, b1, b2, -⟩ := B
  cases a1.symm.trans b1
  exact ids_ne a2 b2 hCD rfl
theorem own_neR {Z : State} {h : Heap} {a b : Addr} {vs : List Value} {D : String} (A : own_R Z h a vs) (B : Exa Z h b D) (hD : D ≠ "[Ljava/lang/Object;") : b ≠ a := fun e => by
  subst e
  obtain ⟨c1, a1, -, a2, -⟩ := A
  obtain ⟨c2, k2, b1, b2, -⟩ := B
  cases a1.1.symm.trans b1
  exact ids_ne b2 a2 hD rfl
def own_Is (Z : State) (h : Heap) (bs : List Value) (xs : List Int32) : Prop := ∀ (i : Nat) (v : Value), bs[i]? = some v → ∃ b x, v = .ref b ∧ xs[i]? = some x ∧ Exa Z h b "java/lang/Integer" ∧ Fld Z h b "java/lang/Integer" "value" "I" (.int x)
theorem own_Is.ext {Z : State} {h h' : Heap} {bs : List Value} {xs : List Int32} (F : own_Is Z h bs xs) (E : Ext h h') : own_Is Z h' bs xs := fun i v hv => by
  obtain ⟨b, x, e1, e2, e3, e4⟩ := F i v hv; exact ⟨b, x, e1, e2, Exa.ext E e3, Fld.ext E e4⟩
theorem own_Is.keep {Z : State} {h h' : Heap} {bs : List Value} {xs : List Int32} {ws : List Addr} (F : own_Is Z h bs xs) (K : Keep h h' ws) (q : ∀ a ∈ ws, ∀ b, Exa Z h b "java/lang/Integer" → b ≠ a) : own_Is Z h' bs xs := fun i v hv => by
  obtain ⟨b, x, e1, e2, e3, e4⟩ := F i v hv; exact ⟨b, x, e1, e2, e3.keep K, e4.keep K (fun hm => q b hm b e3 rfl)⟩
theorem own_Is.ex {Z : State} {h : Heap} {bs : List Value} {xs : List Int32} (F : own_Is Z h bs xs) : own_Ex Z h bs := fun v hv => by
  obtain ⟨i, hi⟩ := List.mem_iff_getElem?.mp hv
  obtain ⟨b, x, e1, e2, e3, e4⟩ := F i v hi; exact ⟨b, e1, e3⟩
theorem own_Is.snoc {Z : State} {h : Heap} {bs : List Value} {xs : List Int32} {b : Addr} {x : Int32} (F : own_Is Z h bs xs) (hl : bs.length = xs.length) (E : Exa Z h b "java/lang/Integer") (V : Fld Z h b "java/lang/Integer" "value" "I" (.int x)) : own_Is Z h (bs ++ [.ref b]) (xs ++ [x]) := fun i v hv => by
  rw [List.getElem?_append] at hv
  by_cases hi : i < bs.length
  · rw [if_pos hi] at hv
    obtain ⟨b', x', e1, e2, e3, e4⟩ := F i v hv
    exact ⟨b', x', e1, by rw [List.getElem?_append_left (by omega)]; exact e2, e3, e4⟩
  · rw [if_neg hi] at hv
    have h0 : i - bs.length = 0 := by
      have := (List.getElem?_eq_some_iff.mp hv).1; simp at this; omega
    rw [h0] at hv
    cases hv
    exact ⟨b, x, rfl, by rw [List.getElem?_append_right (by omega), show i - xs.length = 0 by omega]; rfl, E, V⟩
end OwnHand

theorem own_pn0 : plainName "java/util/AbstractCollection" = true := by first | (simp [plainName, overriddenIn]; done) | decide +kernel
theorem own_ef4 (m : MethodId) (a1 : Addr) : entryFrame m #[.ref a1] 1 = mkF m 0 #[.val (.ref a1)] [] := by first | (simp [entryFrame, mkF, argsToLocals, Value.category]; done) | rfl
theorem own_d4_0 : decode jdk_22_method_1_code 0 = .ok (.aload_n 0, 1) := by decide +kernel
theorem own_d4_1 : decode jdk_22_method_1_code 1 = .ok (.invokespecial 1, 3) := by decide +kernel
theorem own_d4_4 : decode jdk_22_method_1_code 4 = .ok (.return_, 1) := by decide +kernel
set_option maxRecDepth 65536 in
set_option maxHeartbeats 40000000 in
theorem rm4 (l : Launch) (Z : State) (a0 : Array Value) (hw : ∀ d ∈ tables_1, d.before a0 Z = true) (ws : List Jvm.Cond) (a1 : Addr) (h0 : Heap) :
    MetFree l (⟨"java/util/AbstractCollection", "<init>", "()V"⟩ : MethodName) (head1 (Jvm.Cond.code (⟨"java/util/AbstractCollection", "<init>", "()V"⟩ : MethodName) jdk_22_method_1_code 1 none :: ws) ({ frames := 1, cells := 0, slots := 0, locals := 12 } : Room)) (fun a U => a = #[.ref a1] ∧ Z.Warmed39 U.vm ∧ U.heap = h0) (fun _ _ _ _ _ => True) (fun _ U o U' => ∃ v L, o = .returned v ∧ own_V h0 v U'.heap L ∧ FrameEnd U o U' L ({ frames := 1, cells := 0, slots := 0, locals := 12 } : Room).cells ({ frames := 1, cells := 0, slots := 0, locals := 12 } : Room).slots) := by
  refine MetFree.of_bodySF (plainFor_of_name own_pn0) hisR ?_
  intro p e s m args below meth c s₁ Bd hml0 hP hK
  obtain ⟨rfl, hZ, hh⟩ := hP
  have hx := Bd.exec
  have hby := Bd.bytes
  have hml : c.maxLocals = 1 := hml0
  have hown : s.vm.findClass "java/util/AbstractCollection" = some m.cls := findClass_of_methodNamed Bd.named
  have hnm := (name_of_methodNamed Bd.named Bd.method).1
  have hlk : meth.locks = false := BodyLoose.notSynchronized Bd
  have X0 : Stand p l e ({ frames := 1, cells := 0, slots := 0, locals := 12 } : Room) s m #[.ref a1] below meth c s₁ [] 0 0 := Stand.of_body Bd
  have e0 : s₁.heap = h0 := by rw [← hh, Bd.state]; rfl
  show own_Go p e below (own_E s 0 0 (own_V h0)) (s₁.setTop (entryFrame m #[.ref a1] 1))
  rw [own_ef4]
  refine own_aloadN X0 hx (hb hby own_d4_0) (q := 1) rfl rfl rfl ?_
  refine own_initO X0 hx hZ hown (hw _ (List.mem_of_getElem? (i := 23) rfl)) (hw _ (List.mem_of_getElem? (i := 24) rfl)) (hw _ (List.mem_of_getElem? (i := 25) rfl)) e0 (by rw [hml]; rfl) (by decide) (W := 0) (Nat.le_of_eq rfl) (by decide) (hb hby own_d4_1) (q := 4) rfl (fun T1 X2 e3 => ?_)
  refine own_retV X2 hx hlk (rest := []) Bd.returns (hb hby own_d4_4) ?_ (by decide) (by decide)
  exact ⟨rfl, e3, rfl⟩
theorem own_pn2 : plainName "java/lang/Number" = true := by first | (simp [plainName, overriddenIn]; done) | decide +kernel
theorem own_ef29 (m : MethodId) (a1 : Addr) : entryFrame m #[.ref a1] 1 = mkF m 0 #[.val (.ref a1)] [] := by first | (simp [entryFrame, mkF, argsToLocals, Value.category]; done) | rfl
theorem own_d29_0 : decode jdk_18_method_1_code 0 = .ok (.aload_n 0, 1) := by decide +kernel
theorem own_d29_1 : decode jdk_18_method_1_code 1 = .ok (.invokespecial 1, 3) := by decide +kernel
theorem own_d29_4 : decode jdk_18_method_1_code 4 = .ok (.return_, 1) := by decide +kernel
set_option maxRecDepth 65536 in
set_option maxHeartbeats 40000000 in
theorem rm29 (l : Launch) (Z : State) (a0 : Array Value) (hw : ∀ d ∈ tables_1, d.before a0 Z = true) (ws : List Jvm.Cond) (a1 : Addr) (h0 : Heap) :
    MetFree l (⟨"java/lang/Number", "<init>", "()V"⟩ : MethodName) (head1 (Jvm.Cond.code (⟨"java/lang/Number", "<init>", "()V"⟩ : MethodName) jdk_18_method_1_code 1 none :: ws) ({ frames := 1, cells := 0, slots := 0, locals := 12 } : Room)) (fun a U => a = #[.ref a1] ∧ Z.Warmed39 U.vm ∧ U.heap = h0) (fun _ _ _ _ _ => True) (fun _ U o U' => ∃ v L, o = .returned v ∧ own_V h0 v U'.heap L ∧ FrameEnd U o U' L ({ frames := 1, cells := 0, slots := 0, locals := 12 } : Room).cells ({ frames := 1, cells := 0, slots := 0, locals := 12 } : Room).slots) := by
  refine MetFree.of_bodySF (plainFor_of_name own_pn2) hisR ?_
  intro p e s m args below meth c s₁ Bd hml0 hP hK
  obtain ⟨rfl, hZ, hh⟩ := hP
  have hx := Bd.exec
  have hby := Bd.bytes
  have hml : c.maxLocals = 1 := hml0
  have hown : s.vm.findClass "java/lang/Number" = some m.cls := findClass_of_methodNamed Bd.named
  have hnm := (name_of_methodNamed Bd.named Bd.method).1
  have hlk : meth.locks = false := BodyLoose.notSynchronized Bd
  have X0 : Stand p l e ({ frames := 1, cells := 0, slots := 0, locals := 12 } : Room) s m #[.ref a1] below meth c s₁ [] 0 0 := Stand.of_body Bd
  have e0 : s₁.heap = h0 := by rw [← hh, Bd.state]; rfl
  show own_Go p e below (own_E s 0 0 (own_V h0)) (s₁.setTop (entryFrame m #[.ref a1] 1))
  rw [own_ef29]
  refine own_aloadN X0 hx (hb hby own_d29_0) (q := 1) rfl rfl rfl ?_
  refine own_initO X0 hx hZ hown (hw _ (List.mem_of_getElem? (i := 198) rfl)) (hw _ (List.mem_of_getElem? (i := 24) rfl)) (hw _ (List.mem_of_getElem? (i := 25) rfl)) e0 (by rw [hml]; rfl) (by decide) (W := 0) (Nat.le_of_eq rfl) (by decide) (hb hby own_d29_1) (q := 4) rfl (fun T4 X5 e6 => ?_)
  refine own_retV X5 hx hlk (rest := []) Bd.returns (hb hby own_d29_4) ?_ (by decide) (by decide)
  exact ⟨rfl, e6, rfl⟩
theorem own_pd0 : parseMethodDescriptor "()V" = some ⟨[], none⟩ := by decide +kernel
theorem own_pn4 : plainName "java/lang/Integer" = true := by first | (simp [plainName, overriddenIn]; done) | decide +kernel
theorem own_ef28 (m : MethodId) (a1 : Addr) (p2 : Int32) : entryFrame m #[.ref a1, .int p2] 2 = mkF m 0 #[.val (.ref a1), .val (.int p2)] [] := by first | (simp [entryFrame, mkF, argsToLocals, Value.category]; done) | rfl
theorem own_d28_0 : decode jdk_33_method_23_code 0 = .ok (.aload_n 0, 1) := by decide +kernel
theorem own_d28_1 : decode jdk_33_method_23_code 1 = .ok (.invokespecial 202, 3) := by decide +kernel
theorem own_d28_4 : decode jdk_33_method_23_code 4 = .ok (.aload_n 0, 1) := by decide +kernel
theorem own_d28_5 : decode jdk_33_method_23_code 5 = .ok (.iload_n 1, 1) := by decide +kernel
theorem own_d28_6 : decode jdk_33_method_23_code 6 = .ok (.putfield 205, 3) := by decide +kernel
theorem own_d28_9 : decode jdk_33_method_23_code 9 = .ok (.return_, 1) := by decide +kernel
def own_Q28 (Z : State) (a1 : Addr) (p2 : Int32) (v0 : Int32) (h0 : Heap) (n0 : Nat) (v : Option Value) (h : Heap) (L : List Loc) : Prop := v = none ∧ Fr n0 L ∧ Keep h0 h [a1] ∧ Exa Z h a1 "java/lang/Integer" ∧ Fld Z h a1 "java/lang/Integer" "value" "I" (.int p2)
set_option maxRecDepth 65536 in
set_option maxHeartbeats 40000000 in
theorem rm28 (l : Launch) (Z : State) (a0 : Array Value) (hw : ∀ d ∈ tables_1, d.before a0 Z = true) (ws : List Jvm.Cond) (a1 : Addr) (p2 : Int32) (v0 : Int32) (h0 : Heap) (n0 : Nat) (E0p : Exa Z h0 a1 "java/lang/Integer") (F1p : Fld Z h0 a1 "java/lang/Integer" "value" "I" (.int v0)) (G_a1 : n0 ≤ a1) :
    MetFree l (⟨"java/lang/Integer", "<init>", "(I)V"⟩ : MethodName) (head1 (Jvm.Cond.code (⟨"java/lang/Integer", "<init>", "(I)V"⟩ : MethodName) jdk_33_method_23_code 2 none :: ws) ({ frames := 2, cells := 0, slots := 0, locals := 24 } : Room)) (fun a U => a = #[.ref a1, .int p2] ∧ Z.Warmed39 U.vm ∧ U.heap = h0) (fun _ _ _ _ _ => True) (fun _ U o U' => ∃ v L, o = .returned v ∧ own_Q28 Z a1 p2 v0 h0 n0 v U'.heap L ∧ FrameEnd U o U' L ({ frames := 2, cells := 0, slots := 0, locals := 24 } : Room).cells ({ frames := 2, cells := 0, slots := 0, locals := 24 } : Room).slots) := by
  refine MetFree.of_bodySF (plainFor_of_name own_pn4) hisR ?_
  intro p e s m args below meth c s₁ Bd hml0 hP hK
  obtain ⟨rfl, hZ, hh⟩ := hP
  have hx := Bd.exec
  have hby := Bd.bytes
  have hml : c.maxLocals = 2 := hml0
  have hown : s.vm.findClass "java/lang/Integer" = some m.cls := findClass_of_methodNamed Bd.named
  have hnm := (name_of_methodNamed Bd.named Bd.method).1
  have hlk : meth.locks = false := BodyLoose.notSynchronized Bd
  have X0 : Stand p l e ({ frames := 2, cells := 0, slots := 0, locals := 24 } : Room) s m #[.ref a1, .int p2] below meth c s₁ [] 0 0 := Stand.of_body Bd
  have e0 : s₁.heap = h0 := by rw [← hh, Bd.state]; rfl
  have N0 := Fr.nil n0
  have K0 := Keep.refl h0 [a1]
  show own_Go p e below (own_E s 0 0 (own_Q28 Z a1 p2 v0 h0 n0)) (s₁.setTop (entryFrame m #[.ref a1, .int p2] 2))
  rw [own_ef28]
  refine own_aloadN X0 hx (hb hby own_d28_0) (q := 1) rfl rfl rfl ?_
  refine own_callCV X0 hx hZ hown rfl (hw _ (List.mem_of_getElem? (i := 192) rfl)) (hw _ (List.mem_of_getElem? (i := 193) rfl)) (hw _ (List.mem_of_getElem? (i := 196) rfl)) (hw _ (List.mem_of_getElem? (i := 197) rfl)) (by decide) (rm29 l Z a0 hw [] a1 h0) own_pd0 rfl e0 (by rw [hml]; rfl) (argsL := []) (st := []) rfl (W := 0) (Nat.le_of_eq rfl) (by decide) (by decide) (by decide) (by decide) (hb hby own_d28_1) (q := 4) rfl (fun T7 X8 e9 => ?_)
  refine own_aloadN X8 hx (hb hby own_d28_4) (q := 5) rfl rfl rfl ?_
  refine own_iloadN X8 hx (hb hby own_d28_5) (q := 6) rfl rfl ?_
  refine own_putF X8 hx hZ hown (host := "") (Or.inl (hw _ (List.mem_of_getElem? (i := 185) rfl))) Via.refl e9 F1p E0p (Or.inr ⟨(hw _ (List.mem_of_getElem? (i := 186) rfl)), rfl, hnm⟩) (hw _ (List.mem_of_getElem? (i := 188) rfl)) (ty := .int) (by decide) rfl rfl (hb hby own_d28_6) (q := 9) rfl (fun T10 h13 X11 e12 W14 => ?_)
  have E15 := Exa.wr W14 E0p
  have F16 := Fld.same W14 F1p
  have K17 := K0.wr W14 (Or.inl (List.mem_of_getElem? (i := 0) rfl))
  have N18 := Fr.snoc X11 N0 G_a1
  refine own_retV X11 hx hlk (rest := []) Bd.returns (hb hby own_d28_9) ?_ (by decide) (by decide)
  show own_Q28 Z a1 p2 v0 h0 n0 _ T10.heap _
  rw [e12]
  exact ⟨rfl, N18, K17, E15, F16⟩
theorem own_pn6 : plainName "java/util/AbstractList" = true := by first | (simp [plainName, overriddenIn]; done) | decide +kernel
theorem own_ef3 (m : MethodId) (a1 : Addr) : entryFrame m #[.ref a1] 1 = mkF m 0 #[.val (.ref a1)] [] := by first | (simp [entryFrame, mkF, argsToLocals, Value.category]; done) | rfl
theorem own_d3_0 : decode jdk_39_method_1_code 0 = .ok (.aload_n 0, 1) := by decide +kernel
theorem own_d3_1 : decode jdk_39_method_1_code 1 = .ok (.invokespecial 1, 3) := by decide +kernel
theorem own_d3_4 : decode jdk_39_method_1_code 4 = .ok (.aload_n 0, 1) := by decide +kernel
theorem own_d3_5 : decode jdk_39_method_1_code 5 = .ok (.iconst 0, 1) := by decide +kernel
theorem own_d3_6 : decode jdk_39_method_1_code 6 = .ok (.putfield 7, 3) := by decide +kernel
theorem own_d3_9 : decode jdk_39_method_1_code 9 = .ok (.return_, 1) := by decide +kernel
def own_Q3 (Z : State) (a1 : Addr) (mc : Int32) (sz : Int32) (h0 : Heap) (n0 : Nat) (v : Option Value) (h : Heap) (L : List Loc) : Prop := v = none ∧ Fr n0 L ∧ Keep h0 h [a1] ∧ Exa Z h a1 "java/util/ArrayList" ∧ Fld Z h a1 "java/util/AbstractList" "modCount" "I" (.int (0 : Int32)) ∧ Fld Z h a1 "java/util/ArrayList" "elementData" "[Ljava/lang/Object;" (.null) ∧ Fld Z h a1 "java/util/ArrayList" "size" "I" (.int sz)
set_option maxRecDepth 65536 in
set_option maxHeartbeats 40000000 in
theorem rm3 (l : Launch) (Z : State) (a0 : Array Value) (hw : ∀ d ∈ tables_1, d.before a0 Z = true) (ws : List Jvm.Cond) (a1 : Addr) (mc : Int32) (sz : Int32) (h0 : Heap) (n0 : Nat) (E0p : Exa Z h0 a1 "java/util/ArrayList") (F1p : Fld Z h0 a1 "java/util/AbstractList" "modCount" "I" (.int mc)) (F2p : Fld Z h0 a1 "java/util/ArrayList" "elementData" "[Ljava/lang/Object;" (.null)) (F3p : Fld Z h0 a1 "java/util/ArrayList" "size" "I" (.int sz)) (G_a1 : n0 ≤ a1) :
    MetFree l (⟨"java/util/AbstractList", "<init>", "()V"⟩ : MethodName) (head1 (Jvm.Cond.code (⟨"java/util/AbstractList", "<init>", "()V"⟩ : MethodName) jdk_39_method_1_code 1 none :: ws) ({ frames := 2, cells := 0, slots := 0, locals := 24 } : Room)) (fun a U => a = #[.ref a1] ∧ Z.Warmed39 U.vm ∧ U.heap = h0) (fun _ _ _ _ _ => True) (fun _ U o U' => ∃ v L, o = .returned v ∧ own_Q3 Z a1 mc sz h0 n0 v U'.heap L ∧ FrameEnd U o U' L ({ frames := 2, cells := 0, slots := 0, locals := 24 } : Room).cells ({ frames := 2, cells := 0, slots := 0, locals := 24 } : Room).slots) := by
  refine MetFree.of_bodySF (plainFor_of_name own_pn6) hisR ?_
  intro p e s m args below meth c s₁ Bd hml0 hP hK
  obtain ⟨rfl, hZ, hh⟩ := hP
  have hx := Bd.exec
  have hby := Bd.bytes
  have hml : c.maxLocals = 1 := hml0
  have hown : s.vm.findClass "java/util/AbstractList" = some m.cls := findClass_of_methodNamed Bd.named
  have hnm := (name_of_methodNamed Bd.named Bd.method).1
  have hlk : meth.locks = false := BodyLoose.notSynchronized Bd
  have X0 : Stand p l e ({ frames := 2, cells := 0, slots := 0, locals := 24 } : Room) s m #[.ref a1] below meth c s₁ [] 0 0 := Stand.of_body Bd
  have e0 : s₁.heap = h0 := by rw [← hh, Bd.state]; rfl
  have N0 := Fr.nil n0
  have K0 := Keep.refl h0 [a1]
  show own_Go p e below (own_E s 0 0 (own_Q3 Z a1 mc sz h0 n0)) (s₁.setTop (entryFrame m #[.ref a1] 1))
  rw [own_ef3]
  refine own_aloadN X0 hx (hb hby own_d3_0) (q := 1) rfl rfl rfl ?_
  refine own_callCV X0 hx hZ hown rfl (hw _ (List.mem_of_getElem? (i := 17) rfl)) (hw _ (List.mem_of_getElem? (i := 18) rfl)) (hw _ (List.mem_of_getElem? (i := 21) rfl)) (hw _ (List.mem_of_getElem? (i := 22) rfl)) (by decide) (rm4 l Z a0 hw [] a1 h0) own_pd0 rfl e0 (by rw [hml]; rfl) (argsL := []) (st := []) rfl (W := 0) (Nat.le_of_eq rfl) (by decide) (by decide) (by decide) (by decide) (hb hby own_d3_1) (q := 4) rfl (fun T19 X20 e21 => ?_)
  refine own_aloadN X20 hx (hb hby own_d3_4) (q := 5) rfl rfl rfl ?_
  refine own_iconst X20 hx (v := (0 : Int32)) (hb hby own_d3_5) (q := 6) rfl rfl ?_
  refine own_putF X20 hx hZ hown (host := "") (Or.inl (hw _ (List.mem_of_getElem? (i := 26) rfl))) Via.refl e21 F1p E0p (Or.inl (hw _ (List.mem_of_getElem? (i := 27) rfl))) (hw _ (List.mem_of_getElem? (i := 6) rfl)) (ty := .int) (by decide) rfl rfl (hb hby own_d3_6) (q := 9) rfl (fun T22 h25 X23 e24 W26 => ?_)
  have E27 := Exa.wr W26 E0p
  have F28 := Fld.same W26 F1p
  have F29 := Fld.other W26 F2p (Or.inr (slot_ne (C := "java/util/ArrayList") (Or.inl (hw _ (List.mem_of_getElem? (i := 30) rfl))) (Or.inl (hw _ (List.mem_of_getElem? (i := 27) rfl))) (by decide) (t := (.array (.object "java/lang/Object"))) (t' := .int) (by decide) (by decide)))
  have F30 := Fld.other W26 F3p (Or.inr (slot_ne (C := "java/util/ArrayList") (Or.inl (hw _ (List.mem_of_getElem? (i := 50) rfl))) (Or.inl (hw _ (List.mem_of_getElem? (i := 27) rfl))) (by decide) (t := .int) (t' := .int) (by decide) (by decide)))
  have K31 := K0.wr W26 (Or.inl (List.mem_of_getElem? (i := 0) rfl))
  have N32 := Fr.snoc X23 N0 G_a1
  refine own_retV X23 hx hlk (rest := []) Bd.returns (hb hby own_d3_9) ?_ (by decide) (by decide)
  show own_Q3 Z a1 mc sz h0 n0 _ T22.heap _
  rw [e24]
  exact ⟨rfl, N32, K31, E27, F28, F29, F30⟩
theorem own_pn8 : plainName "java/util/ArrayList" = true := by first | (simp [plainName, overriddenIn]; done) | decide +kernel
theorem own_ef2 (m : MethodId) (a1 : Addr) : entryFrame m #[.ref a1] 1 = mkF m 0 #[.val (.ref a1)] [] := by first | (simp [entryFrame, mkF, argsToLocals, Value.category]; done) | rfl
theorem own_d2_0 : decode jdk_38_method_2_code 0 = .ok (.aload_n 0, 1) := by decide +kernel
theorem own_d2_1 : decode jdk_38_method_2_code 1 = .ok (.invokespecial 1, 3) := by decide +kernel
theorem own_d2_4 : decode jdk_38_method_2_code 4 = .ok (.aload_n 0, 1) := by decide +kernel
theorem own_d2_5 : decode jdk_38_method_2_code 5 = .ok (.getstatic 39, 3) := by decide +kernel
theorem own_d2_8 : decode jdk_38_method_2_code 8 = .ok (.putfield 9, 3) := by decide +kernel
theorem own_d2_11 : decode jdk_38_method_2_code 11 = .ok (.return_, 1) := by decide +kernel
def own_Q2 (Z : State) (a1 : Addr) (mc : Int32) (sz : Int32) (dc : Addr) (h0 : Heap) (n0 : Nat) (v : Option Value) (h : Heap) (L : List Loc) : Prop := v = none ∧ Fr n0 L ∧ Keep h0 h [a1] ∧ Exa Z h a1 "java/util/ArrayList" ∧ Fld Z h a1 "java/util/AbstractList" "modCount" "I" (.int (0 : Int32)) ∧ Fld Z h a1 "java/util/ArrayList" "elementData" "[Ljava/lang/Object;" (.ref dc) ∧ Fld Z h a1 "java/util/ArrayList" "size" "I" (.int sz)
set_option maxRecDepth 65536 in
set_option maxHeartbeats 40000000 in
theorem rm2 (l : Launch) (Z : State) (a0 : Array Value) (hw : ∀ d ∈ tables_1, d.before a0 Z = true) (ws : List Jvm.Cond) (a1 : Addr) (mc : Int32) (sz : Int32) (dc : Addr) (h0 : Heap) (n0 : Nat) (E0p : Exa Z h0 a1 "java/util/ArrayList") (F1p : Fld Z h0 a1 "java/util/AbstractList" "modCount" "I" (.int mc)) (F2p : Fld Z h0 a1 "java/util/ArrayList" "elementData" "[Ljava/lang/Object;" (.null)) (F3p : Fld Z h0 a1 "java/util/ArrayList" "size" "I" (.int sz)) (S4p : Sta Z h0 "java/util/ArrayList" "DEFAULTCAPACITY_EMPTY_ELEMENTDATA" "[Ljava/lang/Object;" (.ref dc)) (G_a1 : n0 ≤ a1) :
    MetFree l (⟨"java/util/ArrayList", "<init>", "()V"⟩ : MethodName) (head1 (Jvm.Cond.code (⟨"java/util/ArrayList", "<init>", "()V"⟩ : MethodName) jdk_38_method_2_code 1 none :: ws) ({ frames := 3, cells := 0, slots := 0, locals := 36 } : Room)) (fun a U => a = #[.ref a1] ∧ Z.Warmed39 U.vm ∧ U.heap = h0) (fun _ _ _ _ _ => True) (fun _ U o U' => ∃ v L, o = .returned v ∧ own_Q2 Z a1 mc sz dc h0 n0 v U'.heap L ∧ FrameEnd U o U' L ({ frames := 3, cells := 0, slots := 0, locals := 36 } : Room).cells ({ frames := 3, cells := 0, slots := 0, locals := 36 } : Room).slots) := by
  refine MetFree.of_bodySF (plainFor_of_name own_pn8) hisR ?_
  intro p e s m args below meth c s₁ Bd hml0 hP hK
  obtain ⟨rfl, hZ, hh⟩ := hP
  have hx := Bd.exec
  have hby := Bd.bytes
  have hml : c.maxLocals = 1 := hml0
  have hown : s.vm.findClass "java/util/ArrayList" = some m.cls := findClass_of_methodNamed Bd.named
  have hnm := (name_of_methodNamed Bd.named Bd.method).1
  have hlk : meth.locks = false := BodyLoose.notSynchronized Bd
  have X0 : Stand p l e ({ frames := 3, cells := 0, slots := 0, locals := 36 } : Room) s m #[.ref a1] below meth c s₁ [] 0 0 := Stand.of_body Bd
  have e0 : s₁.heap = h0 := by rw [← hh, Bd.state]; rfl
  have N0 := Fr.nil n0
  have K0 := Keep.refl h0 [a1]
  show own_Go p e below (own_E s 0 0 (own_Q2 Z a1 mc sz dc h0 n0)) (s₁.setTop (entryFrame m #[.ref a1] 1))
  rw [own_ef2]
  refine own_aloadN X0 hx (hb hby own_d2_0) (q := 1) rfl rfl rfl ?_
  refine own_callC X0 hx hZ hown rfl (hw _ (List.mem_of_getElem? (i := 11) rfl)) (hw _ (List.mem_of_getElem? (i := 12) rfl)) (hw _ (List.mem_of_getElem? (i := 15) rfl)) (hw _ (List.mem_of_getElem? (i := 16) rfl)) (by decide) (rm3 l Z a0 hw [] a1 mc sz h0 n0 E0p F1p F2p F3p G_a1 ) own_pd0 rfl e0 (by rw [hml]; rfl) (argsL := []) (st := []) rfl (W := 0) (Nat.le_of_eq rfl) (by decide) (by decide) (by decide) (by decide) (hb hby own_d2_1) (q := 4) rfl (fun v36 T37 L38 X39 hQ40 => ?_)
  obtain ⟨rfl, N41, K42, E44, F45, F46, F47⟩ := hQ40
  have S48 := own_staKeep S4p K42 (allS (own_exaPlain E0p) all0)
  have K49 := K0.trans K42 (allS (Or.inl (List.mem_of_getElem? (i := 0) rfl)) all0)
  have N43 := Fr.app N0 N41
  show own_Go p e below (own_E s 0 0 (own_Q2 Z a1 mc sz dc h0 n0)) (T37.setTop (mkF m 4 #[.val (.ref a1)] []))
  refine own_aloadN X39 hx (hb hby own_d2_4) (q := 5) rfl rfl rfl ?_
  refine own_getS X39 hx hZ hown (hw _ (List.mem_of_getElem? (i := 28) rfl)) Via.refl rfl S48 (hb hby own_d2_5) (q := 8) rfl (fun T50 X51 e52 => ?_)
  refine own_putF X51 hx hZ hown (host := "") (Or.inl (hw _ (List.mem_of_getElem? (i := 29) rfl))) Via.refl e52 F46 E44 (Or.inl (hw _ (List.mem_of_getElem? (i := 30) rfl))) (hw _ (List.mem_of_getElem? (i := 6) rfl)) (ty := (.array (.object "java/lang/Object"))) (by decide) rfl rfl (hb hby own_d2_8) (q := 11) rfl (fun T53 h56 X54 e55 W57 => ?_)
  have E58 := Exa.wr W57 E44
  have F59 := Fld.other W57 F45 (Or.inr (slot_ne (C := "java/util/ArrayList") (Or.inl (hw _ (List.mem_of_getElem? (i := 27) rfl))) (Or.inl (hw _ (List.mem_of_getElem? (i := 30) rfl))) (by decide) (t := .int) (t' := (.array (.object "java/lang/Object"))) (by decide) (by decide)))
  have F60 := Fld.same W57 F46
  have F61 := Fld.other W57 F47 (Or.inr (slot_ne (C := "java/util/ArrayList") (Or.inl (hw _ (List.mem_of_getElem? (i := 50) rfl))) (Or.inl (hw _ (List.mem_of_getElem? (i := 30) rfl))) (by decide) (t := .int) (t' := (.array (.object "java/lang/Object"))) (by decide) (by decide)))
  have S62 := Sta.wr W57 S48
  have K63 := K49.wr W57 (Or.inl (List.mem_of_getElem? (i := 0) rfl))
  have N64 := Fr.snoc X54 N43 G_a1
  refine own_retV X54 hx hlk (rest := []) Bd.returns (hb hby own_d2_11) ?_ (by decide) (by decide)
  show own_Q2 Z a1 mc sz dc h0 n0 _ T53.heap _
  rw [e55]
  exact ⟨rfl, N64, K63, E58, F59, F60, F61⟩
theorem own_ef11_k1_k5 (m : MethodId)  : entryFrame m #[.int (1 : Int32), .int (5 : Int32)] 2 = mkF m 0 #[.val (.int (1 : Int32)), .val (.int (5 : Int32))] [] := by first | (simp [entryFrame, mkF, argsToLocals, Value.category]; done) | rfl
theorem own_d11_0 : decode jdk_29_method_65_code 0 = .ok (.iload_n 0, 1) := by decide +kernel
theorem own_d11_1 : decode jdk_29_method_65_code 1 = .ok (.iload_n 1, 1) := by decide +kernel
theorem own_d11_2 : decode jdk_29_method_65_code 2 = .ok (.if_icmp .lt 7, 3) := by decide +kernel
theorem own_d11_9 : decode jdk_29_method_65_code 9 = .ok (.iload_n 1, 1) := by decide +kernel
theorem own_d11_10 : decode jdk_29_method_65_code 10 = .ok (.ireturn, 1) := by decide +kernel
def own_f11_1_5  : Int32 := (5 : Int32)
set_option maxRecDepth 65536 in
set_option maxHeartbeats 40000000 in
theorem rm11_1_5 (l : Launch) (Z : State) (a0 : Array Value) (hw : ∀ d ∈ tables_1, d.before a0 Z = true) (ws : List Jvm.Cond)  (h0 : Heap)  :
    MetFree l (⟨"java/lang/Math", "max", "(II)I"⟩ : MethodName) (head1 (Jvm.Cond.code (⟨"java/lang/Math", "max", "(II)I"⟩ : MethodName) jdk_29_method_65_code 2 (some .int) :: ws) ({ frames := 0, cells := 0, slots := 0, locals := 0 } : Room)) (fun a U => a = #[.int (1 : Int32), .int (5 : Int32)] ∧ Z.Warmed39 U.vm ∧ U.heap = h0) (fun _ _ _ _ _ => True) (fun _ U o U' => ∃ v L, o = .returned v ∧ own_P (.int (own_f11_1_5 )) h0 v U'.heap L ∧ FrameEnd U o U' L ({ frames := 0, cells := 0, slots := 0, locals := 0 } : Room).cells ({ frames := 0, cells := 0, slots := 0, locals := 0 } : Room).slots) := by
  refine MetFree.of_bodySF (by decide +kernel) hisR ?_
  intro p e s m args below meth c s₁ Bd hml0 hP hK
  obtain ⟨rfl, hZ, hh⟩ := hP
  have hx := Bd.exec
  have hby := Bd.bytes
  have hml : c.maxLocals = 2 := hml0
  have hown : s.vm.findClass "java/lang/Math" = some m.cls := findClass_of_methodNamed Bd.named
  have hnm := (name_of_methodNamed Bd.named Bd.method).1
  have hlk : meth.locks = false := BodyLoose.notSynchronized Bd
  have X0 : Stand p l e ({ frames := 0, cells := 0, slots := 0, locals := 0 } : Room) s m #[.int (1 : Int32), .int (5 : Int32)] below meth c s₁ [] 0 0 := Stand.of_body Bd
  have e0 : s₁.heap = h0 := by rw [← hh, Bd.state]; rfl
  show own_Go p e below (own_E s 0 0 (own_P (.int (own_f11_1_5 )) h0)) (s₁.setTop (entryFrame m #[.int (1 : Int32), .int (5 : Int32)] 2))
  rw [own_ef11_k1_k5]
  refine own_iloadN X0 hx (hb hby own_d11_0) (q := 1) rfl rfl ?_
  refine own_iloadN X0 hx (hb hby own_d11_1) (q := 2) rfl rfl ?_
  refine own_icmpP X0 hx (hb hby own_d11_2) (cd := .lt) (x := (1 : Int32)) (y := (5 : Int32)) (pt := 9) (q := 5) (by decide) (by decide) rfl rfl (fun _ => ?_) (fun h => False.elim (h ((by decide) : (1 : Int32) < (5 : Int32))))
  refine own_iloadN X0 hx (hb hby own_d11_9) (q := 10) rfl rfl ?_
  refine own_retI X0 hx hlk Bd.returns (hb hby own_d11_10) ?_ (by decide) (by decide)
  have r : own_f11_1_5  = (5 : Int32) := by rw [own_f11_1_5]
  exact ⟨by rw [r] <;> rfl, e0, rfl⟩
theorem own_ef11_k1_k7 (m : MethodId)  : entryFrame m #[.int (1 : Int32), .int (7 : Int32)] 2 = mkF m 0 #[.val (.int (1 : Int32)), .val (.int (7 : Int32))] [] := by first | (simp [entryFrame, mkF, argsToLocals, Value.category]; done) | rfl

def own_f11_1_7  : Int32 := (7 : Int32)
set_option maxRecDepth 65536 in
set_option maxHeartbeats 40000000 in
theorem rm11_1_7 (l : Launch) (Z : State) (a0 : Array Value) (hw : ∀ d ∈ tables_1, d.before a0 Z = true) (ws : List Jvm.Cond)  (h0 : Heap)  :
    MetFree l (⟨"java/lang/Math", "max", "(II)I"⟩ : MethodName) (head1 (Jvm.Cond.code (⟨"java/lang/Math", "max", "(II)I"⟩ : MethodName) jdk_29_method_65_code 2 (some .int) :: ws) ({ frames := 0, cells := 0, slots := 0, locals := 0 } : Room)) (fun a U => a = #[.int (1 : Int32), .int (7 : Int32)] ∧ Z.Warmed39 U.vm ∧ U.heap = h0) (fun _ _ _ _ _ => True) (fun _ U o U' => ∃ v L, o = .returned v ∧ own_P (.int (own_f11_1_7 )) h0 v U'.heap L ∧ FrameEnd U o U' L ({ frames := 0, cells := 0, slots := 0, locals := 0 } : Room).cells ({ frames := 0, cells := 0, slots := 0, locals := 0 } : Room).slots) := by
  refine MetFree.of_bodySF (by decide +kernel) hisR ?_
  intro p e s m args below meth c s₁ Bd hml0 hP hK
  obtain ⟨rfl, hZ, hh⟩ := hP
  have hx := Bd.exec
  have hby := Bd.bytes
  have hml : c.maxLocals = 2 := hml0
  have hown : s.vm.findClass "java/lang/Math" = some m.cls := findClass_of_methodNamed Bd.named
  have hnm := (name_of_methodNamed Bd.named Bd.method).1
  have hlk : meth.locks = false := BodyLoose.notSynchronized Bd
  have X0 : Stand p l e ({ frames := 0, cells := 0, slots := 0, locals := 0 } : Room) s m #[.int (1 : Int32), .int (7 : Int32)] below meth c s₁ [] 0 0 := Stand.of_body Bd
  have e0 : s₁.heap = h0 := by rw [← hh, Bd.state]; rfl
  show own_Go p e below (own_E s 0 0 (own_P (.int (own_f11_1_7 )) h0)) (s₁.setTop (entryFrame m #[.int (1 : Int32), .int (7 : Int32)] 2))
  rw [own_ef11_k1_k7]
  refine own_iloadN X0 hx (hb hby own_d11_0) (q := 1) rfl rfl ?_
  refine own_iloadN X0 hx (hb hby own_d11_1) (q := 2) rfl rfl ?_
  refine own_icmpP X0 hx (hb hby own_d11_2) (cd := .lt) (x := (1 : Int32)) (y := (7 : Int32)) (pt := 9) (q := 5) (by decide) (by decide) rfl rfl (fun _ => ?_) (fun h => False.elim (h ((by decide) : (1 : Int32) < (7 : Int32))))
  refine own_iloadN X0 hx (hb hby own_d11_9) (q := 10) rfl rfl ?_
  refine own_retI X0 hx hlk Bd.returns (hb hby own_d11_10) ?_ (by decide) (by decide)
  have r : own_f11_1_7  = (7 : Int32) := by rw [own_f11_1_7]
  exact ⟨by rw [r] <;> rfl, e0, rfl⟩
theorem own_ef11_k10_k1 (m : MethodId)  : entryFrame m #[.int (10 : Int32), .int (1 : Int32)] 2 = mkF m 0 #[.val (.int (10 : Int32)), .val (.int (1 : Int32))] [] := by first | (simp [entryFrame, mkF, argsToLocals, Value.category]; done) | rfl
theorem own_d11_5 : decode jdk_29_method_65_code 5 = .ok (.iload_n 0, 1) := by decide +kernel
theorem own_d11_6 : decode jdk_29_method_65_code 6 = .ok (.goto 4, 3) := by decide +kernel
def own_f11_10_1  : Int32 := (10 : Int32)
set_option maxRecDepth 65536 in
set_option maxHeartbeats 40000000 in
theorem rm11_10_1 (l : Launch) (Z : State) (a0 : Array Value) (hw : ∀ d ∈ tables_1, d.before a0 Z = true) (ws : List Jvm.Cond)  (h0 : Heap)  :
    MetFree l (⟨"java/lang/Math", "max", "(II)I"⟩ : MethodName) (head1 (Jvm.Cond.code (⟨"java/lang/Math", "max", "(II)I"⟩ : MethodName) jdk_29_method_65_code 2 (some .int) :: ws) ({ frames := 0, cells := 0, slots := 0, locals := 0 } : Room)) (fun a U => a = #[.int (10 : Int32), .int (1 : Int32)] ∧ Z.Warmed39 U.vm ∧ U.heap = h0) (fun _ _ _ _ _ => True) (fun _ U o U' => ∃ v L, o = .returned v ∧ own_P (.int (own_f11_10_1 )) h0 v U'.heap L ∧ FrameEnd U o U' L ({ frames := 0, cells := 0, slots := 0, locals := 0 } : Room).cells ({ frames := 0, cells := 0, slots := 0, locals := 0 } : Room).slots) := by
  refine MetFree.of_bodySF (by decide +kernel) hisR ?_
  intro p e s m args below meth c s₁ Bd hml0 hP hK
  obtain ⟨rfl, hZ, hh⟩ := hP
  have hx := Bd.exec
  have hby := Bd.bytes
  have hml : c.maxLocals = 2 := hml0
  have hown : s.vm.findClass "java/lang/Math" = some m.cls := findClass_of_methodNamed Bd.named
  have hnm := (name_of_methodNamed Bd.named Bd.method).1
  have hlk : meth.locks = false := BodyLoose.notSynchronized Bd
  have X0 : Stand p l e ({ frames := 0, cells := 0, slots := 0, locals := 0 } : Room) s m #[.int (10 : Int32), .int (1 : Int32)] below meth c s₁ [] 0 0 := Stand.of_body Bd
  have e0 : s₁.heap = h0 := by rw [← hh, Bd.state]; rfl
  show own_Go p e below (own_E s 0 0 (own_P (.int (own_f11_10_1 )) h0)) (s₁.setTop (entryFrame m #[.int (10 : Int32), .int (1 : Int32)] 2))
  rw [own_ef11_k10_k1]
  refine own_iloadN X0 hx (hb hby own_d11_0) (q := 1) rfl rfl ?_
  refine own_iloadN X0 hx (hb hby own_d11_1) (q := 2) rfl rfl ?_
  refine own_icmpP X0 hx (hb hby own_d11_2) (cd := .lt) (x := (10 : Int32)) (y := (1 : Int32)) (pt := 9) (q := 5) (by decide) (by decide) rfl rfl (fun h => False.elim (((by decide) : ¬ ((10 : Int32) < (1 : Int32))) h)) (fun _ => ?_)
  refine own_iloadN X0 hx (hb hby own_d11_5) (q := 6) rfl rfl ?_
  refine own_goto X0 hx (hb hby own_d11_6) (q := 10) (by decide) (by decide) ?_
  refine own_retI X0 hx hlk Bd.returns (hb hby own_d11_10) ?_ (by decide) (by decide)
  have r : own_f11_10_1  = (10 : Int32) := by rw [own_f11_10_1]
  exact ⟨by rw [r] <;> rfl, e0, rfl⟩
theorem own_pd1 : parseMethodDescriptor "(II)I" = some ⟨[.int, .int], some .int⟩ := by decide +kernel
theorem own_pn13 : plainName "jdk/internal/util/ArraysSupport" = true := by first | (simp [plainName, overriddenIn]; done) | decide +kernel
theorem own_ef30_k10_k1_k5 (m : MethodId)  : entryFrame m #[.int (10 : Int32), .int (1 : Int32), .int (5 : Int32)] 4 = mkF m 0 #[.val (.int (10 : Int32)), .val (.int (1 : Int32)), .val (.int (5 : Int32)), .unset] [] := by first | (simp [entryFrame, mkF, argsToLocals, Value.category]; done) | rfl
theorem own_d30_0 : decode jdk_48_method_27_code 0 = .ok (.iload_n 0, 1) := by decide +kernel
theorem own_d30_1 : decode jdk_48_method_27_code 1 = .ok (.iload_n 1, 1) := by decide +kernel
theorem own_d30_2 : decode jdk_48_method_27_code 2 = .ok (.iload_n 2, 1) := by decide +kernel
theorem own_d30_3 : decode jdk_48_method_27_code 3 = .ok (.invokestatic 194, 3) := by decide +kernel
theorem own_d30_6 : decode jdk_48_method_27_code 6 = .ok (.iadd, 1) := by decide +kernel
theorem own_d30_7 : decode jdk_48_method_27_code 7 = .ok (.istore_n 3, 1) := by decide +kernel
theorem own_d30_8 : decode jdk_48_method_27_code 8 = .ok (.iconst 0, 1) := by decide +kernel
theorem own_d30_9 : decode jdk_48_method_27_code 9 = .ok (.iload_n 3, 1) := by decide +kernel
theorem own_d30_10 : decode jdk_48_method_27_code 10 = .ok (.if_icmp .ge 11, 3) := by decide +kernel
theorem own_d30_13 : decode jdk_48_method_27_code 13 = .ok (.iload_n 3, 1) := by decide +kernel
theorem own_d30_14 : decode jdk_48_method_27_code 14 = .ok (.ldc 200, 2) := by decide +kernel
theorem own_d30_16 : decode jdk_48_method_27_code 16 = .ok (.if_icmp .gt 5, 3) := by decide +kernel
theorem own_d30_19 : decode jdk_48_method_27_code 19 = .ok (.iload_n 3, 1) := by decide +kernel
theorem own_d30_20 : decode jdk_48_method_27_code 20 = .ok (.ireturn, 1) := by decide +kernel
def own_f30_10  : Int32 := (15 : Int32)
set_option maxRecDepth 65536 in
set_option maxHeartbeats 40000000 in
theorem rm30_10 (l : Launch) (Z : State) (a0 : Array Value) (hw : ∀ d ∈ tables_1, d.before a0 Z = true) (ws : List Jvm.Cond)  (h0 : Heap)  :
    MetFree l (⟨"jdk/internal/util/ArraysSupport", "newLength", "(III)I"⟩ : MethodName) (head1 (Jvm.Cond.code (⟨"jdk/internal/util/ArraysSupport", "newLength", "(III)I"⟩ : MethodName) jdk_48_method_27_code 4 (some .int) :: ws) ({ frames := 1, cells := 0, slots := 0, locals := 14 } : Room)) (fun a U => a = #[.int (10 : Int32), .int (1 : Int32), .int (5 : Int32)] ∧ Z.Warmed39 U.vm ∧ U.heap = h0) (fun _ _ _ _ _ => True) (fun _ U o U' => ∃ v L, o = .returned v ∧ own_P (.int (own_f30_10 )) h0 v U'.heap L ∧ FrameEnd U o U' L ({ frames := 1, cells := 0, slots := 0, locals := 14 } : Room).cells ({ frames := 1, cells := 0, slots := 0, locals := 14 } : Room).slots) := by
  refine MetFree.of_bodySF (plainFor_of_name own_pn13) hisR ?_
  intro p e s m args below meth c s₁ Bd hml0 hP hK
  obtain ⟨rfl, hZ, hh⟩ := hP
  have hx := Bd.exec
  have hby := Bd.bytes
  have hml : c.maxLocals = 4 := hml0
  have hown : s.vm.findClass "jdk/internal/util/ArraysSupport" = some m.cls := findClass_of_methodNamed Bd.named
  have hnm := (name_of_methodNamed Bd.named Bd.method).1
  have hlk : meth.locks = false := BodyLoose.notSynchronized Bd
  have X0 : Stand p l e ({ frames := 1, cells := 0, slots := 0, locals := 14 } : Room) s m #[.int (10 : Int32), .int (1 : Int32), .int (5 : Int32)] below meth c s₁ [] 0 0 := Stand.of_body Bd
  have e0 : s₁.heap = h0 := by rw [← hh, Bd.state]; rfl
  show own_Go p e below (own_E s 0 0 (own_P (.int (own_f30_10 )) h0)) (s₁.setTop (entryFrame m #[.int (10 : Int32), .int (1 : Int32), .int (5 : Int32)] 4))
  rw [own_ef30_k10_k1_k5]
  refine own_iloadN X0 hx (hb hby own_d30_0) (q := 1) rfl rfl ?_
  refine own_iloadN X0 hx (hb hby own_d30_1) (q := 2) rfl rfl ?_
  refine own_iloadN X0 hx (hb hby own_d30_2) (q := 3) rfl rfl ?_
  refine own_callSP X0 hx hZ hown (hw _ (List.mem_of_getElem? (i := 203) rfl)) (hw _ (List.mem_of_getElem? (i := 67) rfl)) (hw _ (List.mem_of_getElem? (i := 68) rfl)) (hw _ (List.mem_of_getElem? (i := 69) rfl)) (by decide) (rm11_1_5 l Z a0 hw []  h0 ) own_pd1 rfl e0 (by rw [hml]; rfl) (argsL := [.int (1 : Int32), .int (5 : Int32)]) (st := [.int (10 : Int32)]) rfl (W := 1) (Nat.le_of_eq rfl) (by decide) (by decide) (by decide) (by decide) (hb hby own_d30_3) (q := 6) rfl (fun T65 X66 e67 => ?_)
  rw [show (own_f11_1_5  : Int32) = (5 : Int32) from rfl]
  refine own_iadd X66 hx (hb hby own_d30_6) (q := 7) rfl ?_
  rw [show ((10 : Int32) + (5 : Int32) : Int32) = (15 : Int32) from by decide]
  refine own_istoreN (L' := #[.val (.int (10 : Int32)), .val (.int (1 : Int32)), .val (.int (5 : Int32)), .val (.int (15 : Int32))]) X66 hx (hb hby own_d30_7) (q := 8) rfl rfl ?_
  refine own_iconst X66 hx (v := (0 : Int32)) (hb hby own_d30_8) (q := 9) rfl rfl ?_
  refine own_iloadN X66 hx (hb hby own_d30_9) (q := 10) rfl rfl ?_
  refine own_icmpM X66 hx (hb hby own_d30_10) (cd := .ge) (x := (0 : Int32)) (y := (15 : Int32)) (pt := 21) (q := 13) (by decide) (by decide) rfl rfl (fun h => False.elim (h ((by decide) : (0 : Int32) < (15 : Int32)))) (fun _ => ?_)
  refine own_iloadN X66 hx (hb hby own_d30_13) (q := 14) rfl rfl ?_
  refine own_ldc X66 hx hZ hown (hw _ (List.mem_of_getElem? (i := 204) rfl)) (hb hby own_d30_14) (q := 16) rfl ?_
  refine own_icmpP X66 hx (hb hby own_d30_16) (cd := .gt) (x := (15 : Int32)) (y := (2147483639 : Int32)) (pt := 21) (q := 19) (by decide) (by decide) rfl rfl (fun h => False.elim (((by decide) : ¬ ((2147483639 : Int32) < (15 : Int32))) h)) (fun _ => ?_)
  refine own_iloadN X66 hx (hb hby own_d30_19) (q := 20) rfl rfl ?_
  refine own_retI X66 hx hlk Bd.returns (hb hby own_d30_20) ?_ (by decide) (by decide)
  have r : own_f30_10  = (15 : Int32) := by rw [own_f30_10]
  exact ⟨by rw [r] <;> rfl, e67, rfl⟩
theorem own_ef30_k15_k1_k7 (m : MethodId)  : entryFrame m #[.int (15 : Int32), .int (1 : Int32), .int (7 : Int32)] 4 = mkF m 0 #[.val (.int (15 : Int32)), .val (.int (1 : Int32)), .val (.int (7 : Int32)), .unset] [] := by first | (simp [entryFrame, mkF, argsToLocals, Value.category]; done) | rfl

def own_f30_15  : Int32 := (22 : Int32)
set_option maxRecDepth 65536 in
set_option maxHeartbeats 40000000 in
theorem rm30_15 (l : Launch) (Z : State) (a0 : Array Value) (hw : ∀ d ∈ tables_1, d.before a0 Z = true) (ws : List Jvm.Cond)  (h0 : Heap)  :
    MetFree l (⟨"jdk/internal/util/ArraysSupport", "newLength", "(III)I"⟩ : MethodName) (head1 (Jvm.Cond.code (⟨"jdk/internal/util/ArraysSupport", "newLength", "(III)I"⟩ : MethodName) jdk_48_method_27_code 4 (some .int) :: ws) ({ frames := 1, cells := 0, slots := 0, locals := 14 } : Room)) (fun a U => a = #[.int (15 : Int32), .int (1 : Int32), .int (7 : Int32)] ∧ Z.Warmed39 U.vm ∧ U.heap = h0) (fun _ _ _ _ _ => True) (fun _ U o U' => ∃ v L, o = .returned v ∧ own_P (.int (own_f30_15 )) h0 v U'.heap L ∧ FrameEnd U o U' L ({ frames := 1, cells := 0, slots := 0, locals := 14 } : Room).cells ({ frames := 1, cells := 0, slots := 0, locals := 14 } : Room).slots) := by
  refine MetFree.of_bodySF (plainFor_of_name own_pn13) hisR ?_
  intro p e s m args below meth c s₁ Bd hml0 hP hK
  obtain ⟨rfl, hZ, hh⟩ := hP
  have hx := Bd.exec
  have hby := Bd.bytes
  have hml : c.maxLocals = 4 := hml0
  have hown : s.vm.findClass "jdk/internal/util/ArraysSupport" = some m.cls := findClass_of_methodNamed Bd.named
  have hnm := (name_of_methodNamed Bd.named Bd.method).1
  have hlk : meth.locks = false := BodyLoose.notSynchronized Bd
  have X0 : Stand p l e ({ frames := 1, cells := 0, slots := 0, locals := 14 } : Room) s m #[.int (15 : Int32), .int (1 : Int32), .int (7 : Int32)] below meth c s₁ [] 0 0 := Stand.of_body Bd
  have e0 : s₁.heap = h0 := by rw [← hh, Bd.state]; rfl
  show own_Go p e below (own_E s 0 0 (own_P (.int (own_f30_15 )) h0)) (s₁.setTop (entryFrame m #[.int (15 : Int32), .int (1 : Int32), .int (7 : Int32)] 4))
  rw [own_ef30_k15_k1_k7]
  refine own_iloadN X0 hx (hb hby own_d30_0) (q := 1) rfl rfl ?_
  refine own_iloadN X0 hx (hb hby own_d30_1) (q := 2) rfl rfl ?_
  refine own_iloadN X0 hx (hb hby own_d30_2) (q := 3) rfl rfl ?_
  refine own_callSP X0 hx hZ hown (hw _ (List.mem_of_getElem? (i := 203) rfl)) (hw _ (List.mem_of_getElem? (i := 67) rfl)) (hw _ (List.mem_of_getElem? (i := 68) rfl)) (hw _ (List.mem_of_getElem? (i := 69) rfl)) (by decide) (rm11_1_7 l Z a0 hw []  h0 ) own_pd1 rfl e0 (by rw [hml]; rfl) (argsL := [.int (1 : Int32), .int (7 : Int32)]) (st := [.int (15 : Int32)]) rfl (W := 1) (Nat.le_of_eq rfl) (by decide) (by decide) (by decide) (by decide) (hb hby own_d30_3) (q := 6) rfl (fun T68 X69 e70 => ?_)
  rw [show (own_f11_1_7  : Int32) = (7 : Int32) from rfl]
  refine own_iadd X69 hx (hb hby own_d30_6) (q := 7) rfl ?_
  rw [show ((15 : Int32) + (7 : Int32) : Int32) = (22 : Int32) from by decide]
  refine own_istoreN (L' := #[.val (.int (15 : Int32)), .val (.int (1 : Int32)), .val (.int (7 : Int32)), .val (.int (22 : Int32))]) X69 hx (hb hby own_d30_7) (q := 8) rfl rfl ?_
  refine own_iconst X69 hx (v := (0 : Int32)) (hb hby own_d30_8) (q := 9) rfl rfl ?_
  refine own_iloadN X69 hx (hb hby own_d30_9) (q := 10) rfl rfl ?_
  refine own_icmpM X69 hx (hb hby own_d30_10) (cd := .ge) (x := (0 : Int32)) (y := (22 : Int32)) (pt := 21) (q := 13) (by decide) (by decide) rfl rfl (fun h => False.elim (h ((by decide) : (0 : Int32) < (22 : Int32)))) (fun _ => ?_)
  refine own_iloadN X69 hx (hb hby own_d30_13) (q := 14) rfl rfl ?_
  refine own_ldc X69 hx hZ hown (hw _ (List.mem_of_getElem? (i := 204) rfl)) (hb hby own_d30_14) (q := 16) rfl ?_
  refine own_icmpP X69 hx (hb hby own_d30_16) (cd := .gt) (x := (22 : Int32)) (y := (2147483639 : Int32)) (pt := 21) (q := 19) (by decide) (by decide) rfl rfl (fun h => False.elim (((by decide) : ¬ ((2147483639 : Int32) < (22 : Int32))) h)) (fun _ => ?_)
  refine own_iloadN X69 hx (hb hby own_d30_19) (q := 20) rfl rfl ?_
  refine own_retI X69 hx hlk Bd.returns (hb hby own_d30_20) ?_ (by decide) (by decide)
  have r : own_f30_15  = (22 : Int32) := by rw [own_f30_15]
  exact ⟨by rw [r] <;> rfl, e70, rfl⟩
theorem own_elOf {Z : State} {a0 : Array Value} {h : Heap} {bs : List Value} {k : Nat} (w : (Cond.castable "java/lang/Integer" "java/lang/Object").before a0 Z = true) (F : own_Ex Z h bs) : own_El Z h (bs ++ List.replicate k .null) := fun v hv => by
  rcases List.mem_append.mp hv with q | q
  · obtain ⟨b, e, E⟩ := F v q; exact Or.inr ⟨b, e, Ins.of_exa E w⟩
  · exact Or.inl (List.eq_of_mem_replicate q)
theorem own_ef10_k1 (m : MethodId) (a1 : Addr) : entryFrame m #[.ref a1, .int (1 : Int32)] 4 = mkF m 0 #[.val (.ref a1), .val (.int (1 : Int32)), .unset, .unset] [] := by first | (simp [entryFrame, mkF, argsToLocals, Value.category]; done) | rfl
theorem own_d10_0 : decode jdk_38_method_6_code 0 = .ok (.aload_n 0, 1) := by decide +kernel
theorem own_d10_1 : decode jdk_38_method_6_code 1 = .ok (.getfield 9, 3) := by decide +kernel
theorem own_d10_4 : decode jdk_38_method_6_code 4 = .ok (.arraylength, 1) := by decide +kernel
theorem own_d10_5 : decode jdk_38_method_6_code 5 = .ok (.istore_n 2, 1) := by decide +kernel
theorem own_d10_6 : decode jdk_38_method_6_code 6 = .ok (.iload_n 2, 1) := by decide +kernel
theorem own_d10_7 : decode jdk_38_method_6_code 7 = .ok (.ifCond .gt 13, 3) := by decide +kernel
theorem own_d10_10 : decode jdk_38_method_6_code 10 = .ok (.aload_n 0, 1) := by decide +kernel
theorem own_d10_11 : decode jdk_38_method_6_code 11 = .ok (.getfield 9, 3) := by decide +kernel
theorem own_d10_14 : decode jdk_38_method_6_code 14 = .ok (.getstatic 39, 3) := by decide +kernel
theorem own_d10_17 : decode jdk_38_method_6_code 17 = .ok (.if_acmp .eq 28, 3) := by decide +kernel
theorem own_d10_45 : decode jdk_38_method_6_code 45 = .ok (.aload_n 0, 1) := by decide +kernel
theorem own_d10_46 : decode jdk_38_method_6_code 46 = .ok (.bipush 10, 2) := by decide +kernel
theorem own_d10_48 : decode jdk_38_method_6_code 48 = .ok (.iload_n 1, 1) := by decide +kernel
theorem own_d10_49 : decode jdk_38_method_6_code 49 = .ok (.invokestatic 79, 3) := by decide +kernel
theorem own_d10_52 : decode jdk_38_method_6_code 52 = .ok (.anewarray 7, 3) := by decide +kernel
theorem own_d10_55 : decode jdk_38_method_6_code 55 = .ok (.dup_x1, 1) := by decide +kernel
theorem own_d10_56 : decode jdk_38_method_6_code 56 = .ok (.putfield 9, 3) := by decide +kernel
theorem own_d10_59 : decode jdk_38_method_6_code 59 = .ok (.areturn, 1) := by decide +kernel
def own_Q10_0 (Z : State) (a1 : Addr) (mc : Int32) (dc : Addr) (h0 : Heap) (n0 : Nat) (v : Option Value) (h : Heap) (L : List Loc) : Prop := ∃ ra0 : Addr, v = some (.ref ra0) ∧ Fr n0 L ∧ Keep h0 h [a1] ∧ h0.size ≤ ra0 ∧ own_R Z h ra0 [.null, .null, .null, .null, .null, .null, .null, .null, .null, .null] ∧ Exa Z h a1 "java/util/ArrayList" ∧ Fld Z h a1 "java/util/AbstractList" "modCount" "I" (.int mc) ∧ Fld Z h a1 "java/util/ArrayList" "elementData" "[Ljava/lang/Object;" (.ref ra0) ∧ Fld Z h a1 "java/util/ArrayList" "size" "I" (.int (0 : Int32)) ∧ own_R Z h dc [] ∧ own_Ex Z h []
set_option maxRecDepth 65536 in
set_option maxHeartbeats 40000000 in
theorem rm10_0 (l : Launch) (Z : State) (a0 : Array Value) (hw : ∀ d ∈ tables_1, d.before a0 Z = true) (ws : List Jvm.Cond) (a1 : Addr) (mc : Int32) (dc : Addr) (h0 : Heap) (n0 : Nat) (Z0 : n0 ≤ h0.size) (E0p : Exa Z h0 a1 "java/util/ArrayList") (F1p : Fld Z h0 a1 "java/util/AbstractList" "modCount" "I" (.int mc)) (F2p : Fld Z h0 a1 "java/util/ArrayList" "elementData" "[Ljava/lang/Object;" (.ref dc)) (F3p : Fld Z h0 a1 "java/util/ArrayList" "size" "I" (.int (0 : Int32))) (S4p : Sta Z h0 "java/util/ArrayList" "DEFAULTCAPACITY_EMPTY_ELEMENTDATA" "[Ljava/lang/Object;" (.ref dc)) (V5p : own_R Z h0 dc []) (L6p : own_Ex Z h0 []) (G_a1 : n0 ≤ a1) (ne_dc_a1 : dc ≠ a1) (hmir : Jvm.ShelfD.MirrorMade Z "[Ljava/lang/Object;") :
    MetFree l (⟨"java/util/ArrayList", "grow", "(I)[Ljava/lang/Object;"⟩ : MethodName) (head1 (Jvm.Cond.code (⟨"java/util/ArrayList", "grow", "(I)[Ljava/lang/Object;"⟩ : MethodName) jdk_38_method_6_code 4 (some (.array (.object "java/lang/Object"))) :: ws) ({ frames := 1, cells := 1, slots := 10, locals := 14 } : Room)) (fun a U => a = #[.ref a1, .int (1 : Int32)] ∧ Z.Warmed39 U.vm ∧ U.heap = h0) (fun _ _ _ _ _ => True) (fun _ U o U' => ∃ v L, o = .returned v ∧ own_Q10_0 Z a1 mc dc h0 n0 v U'.heap L ∧ FrameEnd U o U' L ({ frames := 1, cells := 1, slots := 10, locals := 14 } : Room).cells ({ frames := 1, cells := 1, slots := 10, locals := 14 } : Room).slots) := by
  refine MetFree.of_bodySF (plainFor_of_name own_pn8) hisR ?_
  intro p e s m args below meth c s₁ Bd hml0 hP hK
  obtain ⟨rfl, hZ, hh⟩ := hP
  have hx := Bd.exec
  have hby := Bd.bytes
  have hml : c.maxLocals = 4 := hml0
  have hown : s.vm.findClass "java/util/ArrayList" = some m.cls := findClass_of_methodNamed Bd.named
  have hnm := (name_of_methodNamed Bd.named Bd.method).1
  have hlk : meth.locks = false := BodyLoose.notSynchronized Bd
  have X0 : Stand p l e ({ frames := 1, cells := 1, slots := 10, locals := 14 } : Room) s m #[.ref a1, .int (1 : Int32)] below meth c s₁ [] 0 0 := Stand.of_body Bd
  have e0 : s₁.heap = h0 := by rw [← hh, Bd.state]; rfl
  have N0 := Fr.nil n0
  have K0 := Keep.refl h0 [a1]
  show own_Go p e below (own_E s 1 10 (own_Q10_0 Z a1 mc dc h0 n0)) (s₁.setTop (entryFrame m #[.ref a1, .int (1 : Int32)] 4))
  rw [own_ef10_k1]
  refine own_aloadN X0 hx (hb hby own_d10_0) (q := 1) rfl rfl rfl ?_
  refine own_getF X0 hx hZ hown (host := "") (Or.inl (hw _ (List.mem_of_getElem? (i := 29) rfl))) Via.refl e0 F2p (hb hby own_d10_1) (q := 4) rfl (fun T71 X72 e73 => ?_)
  refine own_alen X72 hx hZ (n := (0 : Int32)) e73 V5p.arr rfl (hb hby own_d10_4) (q := 5) rfl ?_
  refine own_istoreN (L' := #[.val (.ref a1), .val (.int (1 : Int32)), .val (.int (0 : Int32)), .unset]) X72 hx (hb hby own_d10_5) (q := 6) rfl rfl ?_
  refine own_iloadN X72 hx (hb hby own_d10_6) (q := 7) rfl rfl ?_
  refine own_if0P X72 hx (hb hby own_d10_7) (cd := .gt) (x := (0 : Int32)) (pt := 20) (q := 10) (by decide) (by decide) rfl rfl (fun h => False.elim (((by decide) : ¬ ((0 : Int32) < (0 : Int32))) h)) (fun _ => ?_)
  refine own_aloadN X72 hx (hb hby own_d10_10) (q := 11) rfl rfl rfl ?_
  refine own_getF X72 hx hZ hown (host := "") (Or.inl (hw _ (List.mem_of_getElem? (i := 29) rfl))) Via.refl e73 F2p (hb hby own_d10_11) (q := 14) rfl (fun T74 X75 e76 => ?_)
  refine own_getS X75 hx hZ hown (hw _ (List.mem_of_getElem? (i := 28) rfl)) Via.refl e76 S4p (hb hby own_d10_14) (q := 17) rfl (fun T77 X78 e79 => ?_)
  refine own_acmp X78 hx (cd := .eq) (v := .ref dc) (w := .ref dc) (same := true) rfl rfl (hb hby own_d10_17) (decide_eq_true rfl) (by decide) (q := 45) (by decide) ?_
  refine own_aloadN X78 hx (hb hby own_d10_45) (q := 46) rfl rfl rfl ?_
  refine own_bipush X78 hx (v := (10 : Int32)) (hb hby own_d10_46) (q := 48) rfl rfl ?_
  refine own_iloadN X78 hx (hb hby own_d10_48) (q := 49) rfl rfl ?_
  refine own_callSP X78 hx hZ hown (hw _ (List.mem_of_getElem? (i := 66) rfl)) (hw _ (List.mem_of_getElem? (i := 67) rfl)) (hw _ (List.mem_of_getElem? (i := 68) rfl)) (hw _ (List.mem_of_getElem? (i := 69) rfl)) (by decide) (rm11_10_1 l Z a0 hw []  h0 ) own_pd1 rfl e79 (by rw [hml]; rfl) (argsL := [.int (10 : Int32), .int (1 : Int32)]) (st := [.ref a1]) rfl (W := 1) (Nat.le_of_eq rfl) (by decide) (by decide) (by decide) (by decide) (hb hby own_d10_49) (q := 52) rfl (fun T80 X81 e82 => ?_)
  rw [show (own_f11_10_1  : Int32) = (10 : Int32) from rfl]
  refine own_newR X81 hx hZ hown (k := 10) (cap := 10) (hw _ (List.mem_of_getElem? (i := 70) rfl)) (hw _ (List.mem_of_getElem? (i := 71) rfl)) e82 (by decide) (by decide) (by decide) (by decide) (by decide) (by decide) (hb hby own_d10_52) (q := 55) rfl (fun T83 h86 a87 X84 e85 g88 E89 A90 => ?_)
  have O91 : h0.size ≤ a87 := by rw [g88]; exact K0.1
  have E92 := Exa.ext E89 E0p
  have F93 := Fld.ext E89 F1p
  have F94 := Fld.ext E89 F2p
  have F95 := Fld.ext E89 F3p
  have S96 := Sta.ext E89 S4p
  have V97 := V5p.ext E89
  have L98 := L6p.ext E89
  have K99 := K0.ext E89
  have ne100 : a1 ≠ a87 := by rw [g88]; exact Nat.ne_of_lt E0p.lt
  have ne101 : dc ≠ a87 := by rw [g88]; exact Nat.ne_of_lt V5p.lt
  have Z102 : n0 ≤ a87 := by rw [g88]; exact Z0
  have Z103 : n0 ≤ h86.size := Nat.le_trans Z0 E89.1
  replace A90 : own_R Z h86 a87 [.null, .null, .null, .null, .null, .null, .null, .null, .null, .null] := A90
  refine own_dupX1 X84 hx (hb hby own_d10_55) (q := 56) rfl rfl rfl ?_
  refine own_putF X84 hx hZ hown (host := "") (Or.inl (hw _ (List.mem_of_getElem? (i := 29) rfl))) Via.refl e85 F94 E92 (Or.inl (hw _ (List.mem_of_getElem? (i := 30) rfl))) (hw _ (List.mem_of_getElem? (i := 6) rfl)) (ty := (.array (.object "java/lang/Object"))) (by decide) rfl rfl (hb hby own_d10_56) (q := 59) rfl (fun T104 h107 X105 e106 W108 => ?_)
  have E109 := Exa.wr W108 E92
  have F110 := Fld.other W108 F93 (Or.inr (slot_ne (C := "java/util/ArrayList") (Or.inl (hw _ (List.mem_of_getElem? (i := 27) rfl))) (Or.inl (hw _ (List.mem_of_getElem? (i := 30) rfl))) (by decide) (t := .int) (t' := (.array (.object "java/lang/Object"))) (by decide) (by decide)))
  have F111 := Fld.same W108 F94
  have F112 := Fld.other W108 F95 (Or.inr (slot_ne (C := "java/util/ArrayList") (Or.inl (hw _ (List.mem_of_getElem? (i := 50) rfl))) (Or.inl (hw _ (List.mem_of_getElem? (i := 30) rfl))) (by decide) (t := .int) (t' := (.array (.object "java/lang/Object"))) (by decide) (by decide)))
  have S113 := Sta.wr W108 S96
  have V114 := V97.other W108 ne_dc_a1
  have L115 := L98.wr W108
  have A116 := A90.other W108 (Ne.symm ne100)
  have K117 := K99.wr W108 (Or.inl (List.mem_of_getElem? (i := 0) rfl))
  have Z118 : n0 ≤ h107.size := W108.size ▸ Z103
  have N119 := Fr.snoc X105 N0 G_a1
  refine own_retA X105 hx hlk rfl rfl rfl Bd.returns (hb hby own_d10_59) ?_ (by decide) (by decide)
  show own_Q10_0 Z a1 mc dc h0 n0 _ T104.heap _
  rw [e106]
  exact ⟨a87, rfl, N119, K117, O91, A116, E109, F110, F111, F112, V114, L115⟩
theorem own_pd2 : parseMethodDescriptor "(III)I" = some ⟨[.int, .int, .int], some .int⟩ := by decide +kernel
theorem own_pd3 : parseMethodDescriptor "([Ljava/lang/Object;I)[Ljava/lang/Object;" = some ⟨[(.array (.object "java/lang/Object")), .int], some (.array (.object "java/lang/Object"))⟩ := by decide +kernel
theorem own_ef10_k11 (m : MethodId) (a1 : Addr) : entryFrame m #[.ref a1, .int (11 : Int32)] 4 = mkF m 0 #[.val (.ref a1), .val (.int (11 : Int32)), .unset, .unset] [] := by first | (simp [entryFrame, mkF, argsToLocals, Value.category]; done) | rfl
theorem own_d10_20 : decode jdk_38_method_6_code 20 = .ok (.iload_n 2, 1) := by decide +kernel
theorem own_d10_21 : decode jdk_38_method_6_code 21 = .ok (.iload_n 1, 1) := by decide +kernel
theorem own_d10_22 : decode jdk_38_method_6_code 22 = .ok (.iload_n 2, 1) := by decide +kernel
theorem own_d10_23 : decode jdk_38_method_6_code 23 = .ok (.isub, 1) := by decide +kernel
theorem own_d10_24 : decode jdk_38_method_6_code 24 = .ok (.iload_n 2, 1) := by decide +kernel
theorem own_d10_25 : decode jdk_38_method_6_code 25 = .ok (.iconst 1, 1) := by decide +kernel
theorem own_d10_26 : decode jdk_38_method_6_code 26 = .ok (.ishr, 1) := by decide +kernel
theorem own_d10_27 : decode jdk_38_method_6_code 27 = .ok (.invokestatic 73, 3) := by decide +kernel
theorem own_d10_30 : decode jdk_38_method_6_code 30 = .ok (.istore_n 3, 1) := by decide +kernel
theorem own_d10_31 : decode jdk_38_method_6_code 31 = .ok (.aload_n 0, 1) := by decide +kernel
theorem own_d10_32 : decode jdk_38_method_6_code 32 = .ok (.aload_n 0, 1) := by decide +kernel
theorem own_d10_33 : decode jdk_38_method_6_code 33 = .ok (.getfield 9, 3) := by decide +kernel
theorem own_d10_36 : decode jdk_38_method_6_code 36 = .ok (.iload_n 3, 1) := by decide +kernel
theorem own_d10_37 : decode jdk_38_method_6_code 37 = .ok (.invokestatic 66, 3) := by decide +kernel
theorem own_d10_40 : decode jdk_38_method_6_code 40 = .ok (.dup_x1, 1) := by decide +kernel
theorem own_d10_41 : decode jdk_38_method_6_code 41 = .ok (.putfield 9, 3) := by decide +kernel
theorem own_d10_44 : decode jdk_38_method_6_code 44 = .ok (.areturn, 1) := by decide +kernel
def own_Q10_10 (Z : State) (a1 : Addr) (mc : Int32) (ea : Addr) (v0 : Value) (v1 : Value) (v2 : Value) (v3 : Value) (v4 : Value) (v5 : Value) (v6 : Value) (v7 : Value) (v8 : Value) (v9 : Value) (h0 : Heap) (n0 : Nat) (v : Option Value) (h : Heap) (L : List Loc) : Prop := ∃ ra0 : Addr, v = some (.ref ra0) ∧ Fr n0 L ∧ Keep h0 h [a1] ∧ h0.size ≤ ra0 ∧ own_R Z h ra0 [v0, v1, v2, v3, v4, v5, v6, v7, v8, v9, .null, .null, .null, .null, .null] ∧ Exa Z h a1 "java/util/ArrayList" ∧ Fld Z h a1 "java/util/AbstractList" "modCount" "I" (.int mc) ∧ Fld Z h a1 "java/util/ArrayList" "elementData" "[Ljava/lang/Object;" (.ref ra0) ∧ Fld Z h a1 "java/util/ArrayList" "size" "I" (.int (10 : Int32)) ∧ own_R Z h ea [v0, v1, v2, v3, v4, v5, v6, v7, v8, v9] ∧ own_Ex Z h [v0, v1, v2, v3, v4, v5, v6, v7, v8, v9]
set_option maxRecDepth 65536 in
set_option maxHeartbeats 40000000 in
theorem rm10_10 (l : Launch) (Z : State) (a0 : Array Value) (hw : ∀ d ∈ tables_1, d.before a0 Z = true) (ws : List Jvm.Cond) (a1 : Addr) (mc : Int32) (ea : Addr) (v0 : Value) (v1 : Value) (v2 : Value) (v3 : Value) (v4 : Value) (v5 : Value) (v6 : Value) (v7 : Value) (v8 : Value) (v9 : Value) (h0 : Heap) (n0 : Nat) (Z0 : n0 ≤ h0.size) (E0p : Exa Z h0 a1 "java/util/ArrayList") (F1p : Fld Z h0 a1 "java/util/AbstractList" "modCount" "I" (.int mc)) (F2p : Fld Z h0 a1 "java/util/ArrayList" "elementData" "[Ljava/lang/Object;" (.ref ea)) (F3p : Fld Z h0 a1 "java/util/ArrayList" "size" "I" (.int (10 : Int32))) (V4p : own_R Z h0 ea [v0, v1, v2, v3, v4, v5, v6, v7, v8, v9]) (L5p : own_Ex Z h0 [v0, v1, v2, v3, v4, v5, v6, v7, v8, v9]) (G_a1 : n0 ≤ a1) (ne_ea_a1 : ea ≠ a1) (hmir : Jvm.ShelfD.MirrorMade Z "[Ljava/lang/Object;") :
    MetFree l (⟨"java/util/ArrayList", "grow", "(I)[Ljava/lang/Object;"⟩ : MethodName) (head1 (Jvm.Cond.code (⟨"java/util/ArrayList", "grow", "(I)[Ljava/lang/Object;"⟩ : MethodName) jdk_38_method_6_code 4 (some (.array (.object "java/lang/Object"))) :: ws) ({ frames := 4, cells := 1, slots := 15, locals := 78 } : Room)) (fun a U => a = #[.ref a1, .int (11 : Int32)] ∧ Z.Warmed39 U.vm ∧ U.heap = h0) (fun _ _ _ _ _ => True) (fun _ U o U' => ∃ v L, o = .returned v ∧ own_Q10_10 Z a1 mc ea v0 v1 v2 v3 v4 v5 v6 v7 v8 v9 h0 n0 v U'.heap L ∧ FrameEnd U o U' L ({ frames := 4, cells := 1, slots := 15, locals := 78 } : Room).cells ({ frames := 4, cells := 1, slots := 15, locals := 78 } : Room).slots) := by
  refine MetFree.of_bodySF (plainFor_of_name own_pn8) hisR ?_
  intro p e s m args below meth c s₁ Bd hml0 hP hK
  obtain ⟨rfl, hZ, hh⟩ := hP
  have hx := Bd.exec
  have hby := Bd.bytes
  have hml : c.maxLocals = 4 := hml0
  have hown : s.vm.findClass "java/util/ArrayList" = some m.cls := findClass_of_methodNamed Bd.named
  have hnm := (name_of_methodNamed Bd.named Bd.method).1
  have hlk : meth.locks = false := BodyLoose.notSynchronized Bd
  have X0 : Stand p l e ({ frames := 4, cells := 1, slots := 15, locals := 78 } : Room) s m #[.ref a1, .int (11 : Int32)] below meth c s₁ [] 0 0 := Stand.of_body Bd
  have e0 : s₁.heap = h0 := by rw [← hh, Bd.state]; rfl
  have N0 := Fr.nil n0
  have K0 := Keep.refl h0 [a1]
  show own_Go p e below (own_E s 1 15 (own_Q10_10 Z a1 mc ea v0 v1 v2 v3 v4 v5 v6 v7 v8 v9 h0 n0)) (s₁.setTop (entryFrame m #[.ref a1, .int (11 : Int32)] 4))
  rw [own_ef10_k11]
  refine own_aloadN X0 hx (hb hby own_d10_0) (q := 1) rfl rfl rfl ?_
  refine own_getF X0 hx hZ hown (host := "") (Or.inl (hw _ (List.mem_of_getElem? (i := 29) rfl))) Via.refl e0 F2p (hb hby own_d10_1) (q := 4) rfl (fun T120 X121 e122 => ?_)
  refine own_alen X121 hx hZ (n := (10 : Int32)) e122 V4p.arr rfl (hb hby own_d10_4) (q := 5) rfl ?_
  refine own_istoreN (L' := #[.val (.ref a1), .val (.int (11 : Int32)), .val (.int (10 : Int32)), .unset]) X121 hx (hb hby own_d10_5) (q := 6) rfl rfl ?_
  refine own_iloadN X121 hx (hb hby own_d10_6) (q := 7) rfl rfl ?_
  refine own_if0P X121 hx (hb hby own_d10_7) (cd := .gt) (x := (10 : Int32)) (pt := 20) (q := 10) (by decide) (by decide) rfl rfl (fun _ => ?_) (fun h => False.elim (h ((by decide) : (0 : Int32) < (10 : Int32))))
  refine own_iloadN X121 hx (hb hby own_d10_20) (q := 21) rfl rfl ?_
  refine own_iloadN X121 hx (hb hby own_d10_21) (q := 22) rfl rfl ?_
  refine own_iloadN X121 hx (hb hby own_d10_22) (q := 23) rfl rfl ?_
  refine own_isub X121 hx (hb hby own_d10_23) (q := 24) rfl ?_
  rw [show ((11 : Int32) - (10 : Int32) : Int32) = (1 : Int32) from by decide]
  refine own_iloadN X121 hx (hb hby own_d10_24) (q := 25) rfl rfl ?_
  refine own_iconst X121 hx (v := (1 : Int32)) (hb hby own_d10_25) (q := 26) rfl rfl ?_
  refine own_ishr X121 hx (hb hby own_d10_26) (q := 27) rfl ?_
  rw [show ((10 : Int32) >>> ((1 : Int32) &&& 31) : Int32) = (5 : Int32) from by decide]
  refine own_callSP X121 hx hZ hown (hw _ (List.mem_of_getElem? (i := 199) rfl)) (hw _ (List.mem_of_getElem? (i := 200) rfl)) (hw _ (List.mem_of_getElem? (i := 201) rfl)) (hw _ (List.mem_of_getElem? (i := 202) rfl)) (by decide) (rm30_10 l Z a0 hw []  h0 ) own_pd2 rfl e122 (by rw [hml]; rfl) (argsL := [.int (10 : Int32), .int (1 : Int32), .int (5 : Int32)]) (st := []) rfl (W := 0) (Nat.le_of_eq rfl) (by decide) (by decide) (by decide) (by decide) (hb hby own_d10_27) (q := 30) rfl (fun T123 X124 e125 => ?_)
  rw [show (own_f30_10  : Int32) = (15 : Int32) from rfl]
  refine own_istoreN (L' := #[.val (.ref a1), .val (.int (11 : Int32)), .val (.int (10 : Int32)), .val (.int (15 : Int32))]) X124 hx (hb hby own_d10_30) (q := 31) rfl rfl ?_
  refine own_aloadN X124 hx (hb hby own_d10_31) (q := 32) rfl rfl rfl ?_
  refine own_aloadN X124 hx (hb hby own_d10_32) (q := 33) rfl rfl rfl ?_
  refine own_getF X124 hx hZ hown (host := "") (Or.inl (hw _ (List.mem_of_getElem? (i := 29) rfl))) Via.refl e125 F2p (hb hby own_d10_33) (q := 36) rfl (fun T126 X127 e128 => ?_)
  refine own_iloadN X127 hx (hb hby own_d10_36) (q := 37) rfl rfl ?_
  refine own_copy2 X127 hx hZ hown hw (hw _ (List.mem_of_getElem? (i := 104) rfl)) hmir (k := 15) e128 V4p (own_elOf (k := 0) (hw _ (List.mem_of_getElem? (i := 72) rfl)) L5p) (by decide) (by decide) (by decide) (Nat.le_of_ble_eq_true rfl) (by rw [hml]; rfl) (W := 1) (Nat.le_of_eq rfl) (by decide) (by decide) (by decide) (by decide) (hb hby own_d10_37) (q := 40) rfl (fun T135 h138 a139 X136 e137 g140 E141 A142 => ?_)
  have O143 : h0.size ≤ a139 := by rw [g140]; exact K0.1
  have E144 := Exa.ext E141 E0p
  have F145 := Fld.ext E141 F1p
  have F146 := Fld.ext E141 F2p
  have F147 := Fld.ext E141 F3p
  have V148 := V4p.ext E141
  have L149 := L5p.ext E141
  have K150 := K0.ext E141
  have ne151 : a1 ≠ a139 := by rw [g140]; exact Nat.ne_of_lt E0p.lt
  have ne152 : ea ≠ a139 := by rw [g140]; exact Nat.ne_of_lt V4p.lt
  have Z153 : n0 ≤ a139 := by rw [g140]; exact Z0
  have Z154 : n0 ≤ h138.size := Nat.le_trans Z0 E141.1
  replace A142 : own_R Z h138 a139 [v0, v1, v2, v3, v4, v5, v6, v7, v8, v9, .null, .null, .null, .null, .null] := A142
  refine own_dupX1 X136 hx (hb hby own_d10_40) (q := 41) rfl rfl rfl ?_
  refine own_putF X136 hx hZ hown (host := "") (Or.inl (hw _ (List.mem_of_getElem? (i := 29) rfl))) Via.refl e137 F146 E144 (Or.inl (hw _ (List.mem_of_getElem? (i := 30) rfl))) (hw _ (List.mem_of_getElem? (i := 6) rfl)) (ty := (.array (.object "java/lang/Object"))) (by decide) rfl rfl (hb hby own_d10_41) (q := 44) rfl (fun T155 h158 X156 e157 W159 => ?_)
  have E160 := Exa.wr W159 E144
  have F161 := Fld.other W159 F145 (Or.inr (slot_ne (C := "java/util/ArrayList") (Or.inl (hw _ (List.mem_of_getElem? (i := 27) rfl))) (Or.inl (hw _ (List.mem_of_getElem? (i := 30) rfl))) (by decide) (t := .int) (t' := (.array (.object "java/lang/Object"))) (by decide) (by decide)))
  have F162 := Fld.same W159 F146
  have F163 := Fld.other W159 F147 (Or.inr (slot_ne (C := "java/util/ArrayList") (Or.inl (hw _ (List.mem_of_getElem? (i := 50) rfl))) (Or.inl (hw _ (List.mem_of_getElem? (i := 30) rfl))) (by decide) (t := .int) (t' := (.array (.object "java/lang/Object"))) (by decide) (by decide)))
  have V164 := V148.other W159 ne_ea_a1
  have L165 := L149.wr W159
  have A166 := A142.other W159 (Ne.symm ne151)
  have K167 := K150.wr W159 (Or.inl (List.mem_of_getElem? (i := 0) rfl))
  have Z168 : n0 ≤ h158.size := W159.size ▸ Z154
  have N169 := Fr.snoc X156 N0 G_a1
  refine own_retA X156 hx hlk rfl rfl rfl Bd.returns (hb hby own_d10_44) ?_ (by decide) (by decide)
  show own_Q10_10 Z a1 mc ea v0 v1 v2 v3 v4 v5 v6 v7 v8 v9 h0 n0 _ T155.heap _
  rw [e157]
  exact ⟨a139, rfl, N169, K167, O143, A166, E160, F161, F162, F163, V164, L165⟩
theorem own_ef10_k16 (m : MethodId) (a1 : Addr) : entryFrame m #[.ref a1, .int (16 : Int32)] 4 = mkF m 0 #[.val (.ref a1), .val (.int (16 : Int32)), .unset, .unset] [] := by first | (simp [entryFrame, mkF, argsToLocals, Value.category]; done) | rfl

def own_Q10_15 (Z : State) (a1 : Addr) (mc : Int32) (ea : Addr) (v0 : Value) (v1 : Value) (v2 : Value) (v3 : Value) (v4 : Value) (v5 : Value) (v6 : Value) (v7 : Value) (v8 : Value) (v9 : Value) (v10 : Value) (v11 : Value) (v12 : Value) (v13 : Value) (v14 : Value) (h0 : Heap) (n0 : Nat) (v : Option Value) (h : Heap) (L : List Loc) : Prop := ∃ ra0 : Addr, v = some (.ref ra0) ∧ Fr n0 L ∧ Keep h0 h [a1] ∧ h0.size ≤ ra0 ∧ own_R Z h ra0 [v0, v1, v2, v3, v4, v5, v6, v7, v8, v9, v10, v11, v12, v13, v14, .null, .null, .null, .null, .null, .null, .null] ∧ Exa Z h a1 "java/util/ArrayList" ∧ Fld Z h a1 "java/util/AbstractList" "modCount" "I" (.int mc) ∧ Fld Z h a1 "java/util/ArrayList" "elementData" "[Ljava/lang/Object;" (.ref ra0) ∧ Fld Z h a1 "java/util/ArrayList" "size" "I" (.int (15 : Int32)) ∧ own_R Z h ea [v0, v1, v2, v3, v4, v5, v6, v7, v8, v9, v10, v11, v12, v13, v14] ∧ own_Ex Z h [v0, v1, v2, v3, v4, v5, v6, v7, v8, v9, v10, v11, v12, v13, v14]
set_option maxRecDepth 65536 in
set_option maxHeartbeats 40000000 in
theorem rm10_15 (l : Launch) (Z : State) (a0 : Array Value) (hw : ∀ d ∈ tables_1, d.before a0 Z = true) (ws : List Jvm.Cond) (a1 : Addr) (mc : Int32) (ea : Addr) (v0 : Value) (v1 : Value) (v2 : Value) (v3 : Value) (v4 : Value) (v5 : Value) (v6 : Value) (v7 : Value) (v8 : Value) (v9 : Value) (v10 : Value) (v11 : Value) (v12 : Value) (v13 : Value) (v14 : Value) (h0 : Heap) (n0 : Nat) (Z0 : n0 ≤ h0.size) (E0p : Exa Z h0 a1 "java/util/ArrayList") (F1p : Fld Z h0 a1 "java/util/AbstractList" "modCount" "I" (.int mc)) (F2p : Fld Z h0 a1 "java/util/ArrayList" "elementData" "[Ljava/lang/Object;" (.ref ea)) (F3p : Fld Z h0 a1 "java/util/ArrayList" "size" "I" (.int (15 : Int32))) (V4p : own_R Z h0 ea [v0, v1, v2, v3, v4, v5, v6, v7, v8, v9, v10, v11, v12, v13, v14]) (L5p : own_Ex Z h0 [v0, v1, v2, v3, v4, v5, v6, v7, v8, v9, v10, v11, v12, v13, v14]) (G_a1 : n0 ≤ a1) (ne_ea_a1 : ea ≠ a1) (hmir : Jvm.ShelfD.MirrorMade Z "[Ljava/lang/Object;") :
    MetFree l (⟨"java/util/ArrayList", "grow", "(I)[Ljava/lang/Object;"⟩ : MethodName) (head1 (Jvm.Cond.code (⟨"java/util/ArrayList", "grow", "(I)[Ljava/lang/Object;"⟩ : MethodName) jdk_38_method_6_code 4 (some (.array (.object "java/lang/Object"))) :: ws) ({ frames := 4, cells := 1, slots := 22, locals := 78 } : Room)) (fun a U => a = #[.ref a1, .int (16 : Int32)] ∧ Z.Warmed39 U.vm ∧ U.heap = h0) (fun _ _ _ _ _ => True) (fun _ U o U' => ∃ v L, o = .returned v ∧ own_Q10_15 Z a1 mc ea v0 v1 v2 v3 v4 v5 v6 v7 v8 v9 v10 v11 v12 v13 v14 h0 n0 v U'.heap L ∧ FrameEnd U o U' L ({ frames := 4, cells := 1, slots := 22, locals := 78 } : Room).cells ({ frames := 4, cells := 1, slots := 22, locals := 78 } : Room).slots) := by
  refine MetFree.of_bodySF (plainFor_of_name own_pn8) hisR ?_
  intro p e s m args below meth c s₁ Bd hml0 hP hK
  obtain ⟨rfl, hZ, hh⟩ := hP
  have hx := Bd.exec
  have hby := Bd.bytes
  have hml : c.maxLocals = 4 := hml0
  have hown : s.vm.findClass "java/util/ArrayList" = some m.cls := findClass_of_methodNamed Bd.named
  have hnm := (name_of_methodNamed Bd.named Bd.method).1
  have hlk : meth.locks = false := BodyLoose.notSynchronized Bd
  have X0 : Stand p l e ({ frames := 4, cells := 1, slots := 22, locals := 78 } : Room) s m #[.ref a1, .int (16 : Int32)] below meth c s₁ [] 0 0 := Stand.of_body Bd
  have e0 : s₁.heap = h0 := by rw [← hh, Bd.state]; rfl
  have N0 := Fr.nil n0
  have K0 := Keep.refl h0 [a1]
  show own_Go p e below (own_E s 1 22 (own_Q10_15 Z a1 mc ea v0 v1 v2 v3 v4 v5 v6 v7 v8 v9 v10 v11 v12 v13 v14 h0 n0)) (s₁.setTop (entryFrame m #[.ref a1, .int (16 : Int32)] 4))
  rw [own_ef10_k16]
  refine own_aloadN X0 hx (hb hby own_d10_0) (q := 1) rfl rfl rfl ?_
  refine own_getF X0 hx hZ hown (host := "") (Or.inl (hw _ (List.mem_of_getElem? (i := 29) rfl))) Via.refl e0 F2p (hb hby own_d10_1) (q := 4) rfl (fun T170 X171 e172 => ?_)
  refine own_alen X171 hx hZ (n := (15 : Int32)) e172 V4p.arr rfl (hb hby own_d10_4) (q := 5) rfl ?_
  refine own_istoreN (L' := #[.val (.ref a1), .val (.int (16 : Int32)), .val (.int (15 : Int32)), .unset]) X171 hx (hb hby own_d10_5) (q := 6) rfl rfl ?_
  refine own_iloadN X171 hx (hb hby own_d10_6) (q := 7) rfl rfl ?_
  refine own_if0P X171 hx (hb hby own_d10_7) (cd := .gt) (x := (15 : Int32)) (pt := 20) (q := 10) (by decide) (by decide) rfl rfl (fun _ => ?_) (fun h => False.elim (h ((by decide) : (0 : Int32) < (15 : Int32))))
  refine own_iloadN X171 hx (hb hby own_d10_20) (q := 21) rfl rfl ?_
  refine own_iloadN X171 hx (hb hby own_d10_21) (q := 22) rfl rfl ?_
  refine own_iloadN X171 hx (hb hby own_d10_22) (q := 23) rfl rfl ?_
  refine own_isub X171 hx (hb hby own_d10_23) (q := 24) rfl ?_
  rw [show ((16 : Int32) - (15 : Int32) : Int32) = (1 : Int32) from by decide]
  refine own_iloadN X171 hx (hb hby own_d10_24) (q := 25) rfl rfl ?_
  refine own_iconst X171 hx (v := (1 : Int32)) (hb hby own_d10_25) (q := 26) rfl rfl ?_
  refine own_ishr X171 hx (hb hby own_d10_26) (q := 27) rfl ?_
  rw [show ((15 : Int32) >>> ((1 : Int32) &&& 31) : Int32) = (7 : Int32) from by decide]
  refine own_callSP X171 hx hZ hown (hw _ (List.mem_of_getElem? (i := 199) rfl)) (hw _ (List.mem_of_getElem? (i := 200) rfl)) (hw _ (List.mem_of_getElem? (i := 201) rfl)) (hw _ (List.mem_of_getElem? (i := 202) rfl)) (by decide) (rm30_15 l Z a0 hw []  h0 ) own_pd2 rfl e172 (by rw [hml]; rfl) (argsL := [.int (15 : Int32), .int (1 : Int32), .int (7 : Int32)]) (st := []) rfl (W := 0) (Nat.le_of_eq rfl) (by decide) (by decide) (by decide) (by decide) (hb hby own_d10_27) (q := 30) rfl (fun T173 X174 e175 => ?_)
  rw [show (own_f30_15  : Int32) = (22 : Int32) from rfl]
  refine own_istoreN (L' := #[.val (.ref a1), .val (.int (16 : Int32)), .val (.int (15 : Int32)), .val (.int (22 : Int32))]) X174 hx (hb hby own_d10_30) (q := 31) rfl rfl ?_
  refine own_aloadN X174 hx (hb hby own_d10_31) (q := 32) rfl rfl rfl ?_
  refine own_aloadN X174 hx (hb hby own_d10_32) (q := 33) rfl rfl rfl ?_
  refine own_getF X174 hx hZ hown (host := "") (Or.inl (hw _ (List.mem_of_getElem? (i := 29) rfl))) Via.refl e175 F2p (hb hby own_d10_33) (q := 36) rfl (fun T176 X177 e178 => ?_)
  refine own_iloadN X177 hx (hb hby own_d10_36) (q := 37) rfl rfl ?_
  refine own_copy2 X177 hx hZ hown hw (hw _ (List.mem_of_getElem? (i := 104) rfl)) hmir (k := 22) e178 V4p (own_elOf (k := 0) (hw _ (List.mem_of_getElem? (i := 72) rfl)) L5p) (by decide) (by decide) (by decide) (Nat.le_of_ble_eq_true rfl) (by rw [hml]; rfl) (W := 1) (Nat.le_of_eq rfl) (by decide) (by decide) (by decide) (by decide) (hb hby own_d10_37) (q := 40) rfl (fun T185 h188 a189 X186 e187 g190 E191 A192 => ?_)
  have O193 : h0.size ≤ a189 := by rw [g190]; exact K0.1
  have E194 := Exa.ext E191 E0p
  have F195 := Fld.ext E191 F1p
  have F196 := Fld.ext E191 F2p
  have F197 := Fld.ext E191 F3p
  have V198 := V4p.ext E191
  have L199 := L5p.ext E191
  have K200 := K0.ext E191
  have ne201 : a1 ≠ a189 := by rw [g190]; exact Nat.ne_of_lt E0p.lt
  have ne202 : ea ≠ a189 := by rw [g190]; exact Nat.ne_of_lt V4p.lt
  have Z203 : n0 ≤ a189 := by rw [g190]; exact Z0
  have Z204 : n0 ≤ h188.size := Nat.le_trans Z0 E191.1
  replace A192 : own_R Z h188 a189 [v0, v1, v2, v3, v4, v5, v6, v7, v8, v9, v10, v11, v12, v13, v14, .null, .null, .null, .null, .null, .null, .null] := A192
  refine own_dupX1 X186 hx (hb hby own_d10_40) (q := 41) rfl rfl rfl ?_
  refine own_putF X186 hx hZ hown (host := "") (Or.inl (hw _ (List.mem_of_getElem? (i := 29) rfl))) Via.refl e187 F196 E194 (Or.inl (hw _ (List.mem_of_getElem? (i := 30) rfl))) (hw _ (List.mem_of_getElem? (i := 6) rfl)) (ty := (.array (.object "java/lang/Object"))) (by decide) rfl rfl (hb hby own_d10_41) (q := 44) rfl (fun T205 h208 X206 e207 W209 => ?_)
  have E210 := Exa.wr W209 E194
  have F211 := Fld.other W209 F195 (Or.inr (slot_ne (C := "java/util/ArrayList") (Or.inl (hw _ (List.mem_of_getElem? (i := 27) rfl))) (Or.inl (hw _ (List.mem_of_getElem? (i := 30) rfl))) (by decide) (t := .int) (t' := (.array (.object "java/lang/Object"))) (by decide) (by decide)))
  have F212 := Fld.same W209 F196
  have F213 := Fld.other W209 F197 (Or.inr (slot_ne (C := "java/util/ArrayList") (Or.inl (hw _ (List.mem_of_getElem? (i := 50) rfl))) (Or.inl (hw _ (List.mem_of_getElem? (i := 30) rfl))) (by decide) (t := .int) (t' := (.array (.object "java/lang/Object"))) (by decide) (by decide)))
  have V214 := V198.other W209 ne_ea_a1
  have L215 := L199.wr W209
  have A216 := A192.other W209 (Ne.symm ne201)
  have K217 := K200.wr W209 (Or.inl (List.mem_of_getElem? (i := 0) rfl))
  have Z218 : n0 ≤ h208.size := W209.size ▸ Z204
  have N219 := Fr.snoc X206 N0 G_a1
  refine own_retA X206 hx hlk rfl rfl rfl Bd.returns (hb hby own_d10_44) ?_ (by decide) (by decide)
  show own_Q10_15 Z a1 mc ea v0 v1 v2 v3 v4 v5 v6 v7 v8 v9 v10 v11 v12 v13 v14 h0 n0 _ T205.heap _
  rw [e207]
  exact ⟨a189, rfl, N219, K217, O193, A216, E210, F211, F212, F213, V214, L215⟩
theorem own_pd4 : parseMethodDescriptor "(I)[Ljava/lang/Object;" = some ⟨[.int], some (.array (.object "java/lang/Object"))⟩ := by decide +kernel
theorem own_ef9 (m : MethodId) (a1 : Addr) : entryFrame m #[.ref a1] 1 = mkF m 0 #[.val (.ref a1)] [] := by first | (simp [entryFrame, mkF, argsToLocals, Value.category]; done) | rfl
theorem own_d9_0 : decode jdk_38_method_7_code 0 = .ok (.aload_n 0, 1) := by decide +kernel
theorem own_d9_1 : decode jdk_38_method_7_code 1 = .ok (.aload_n 0, 1) := by decide +kernel
theorem own_d9_2 : decode jdk_38_method_7_code 2 = .ok (.getfield 48, 3) := by decide +kernel
theorem own_d9_5 : decode jdk_38_method_7_code 5 = .ok (.iconst 1, 1) := by decide +kernel
theorem own_d9_6 : decode jdk_38_method_7_code 6 = .ok (.iadd, 1) := by decide +kernel
theorem own_d9_7 : decode jdk_38_method_7_code 7 = .ok (.invokevirtual 69, 3) := by decide +kernel
theorem own_d9_10 : decode jdk_38_method_7_code 10 = .ok (.areturn, 1) := by decide +kernel
def own_Q9_0 (Z : State) (a1 : Addr) (mc : Int32) (dc : Addr) (h0 : Heap) (n0 : Nat) (v : Option Value) (h : Heap) (L : List Loc) : Prop := ∃ ra0 : Addr, v = some (.ref ra0) ∧ Fr n0 L ∧ Keep h0 h [a1] ∧ h0.size ≤ ra0 ∧ own_R Z h ra0 [.null, .null, .null, .null, .null, .null, .null, .null, .null, .null] ∧ Exa Z h a1 "java/util/ArrayList" ∧ Fld Z h a1 "java/util/AbstractList" "modCount" "I" (.int mc) ∧ Fld Z h a1 "java/util/ArrayList" "elementData" "[Ljava/lang/Object;" (.ref ra0) ∧ Fld Z h a1 "java/util/ArrayList" "size" "I" (.int (0 : Int32)) ∧ own_R Z h dc [] ∧ own_Ex Z h []
set_option maxRecDepth 65536 in
set_option maxHeartbeats 40000000 in
theorem rm9_0 (l : Launch) (Z : State) (a0 : Array Value) (hw : ∀ d ∈ tables_1, d.before a0 Z = true) (ws : List Jvm.Cond) (a1 : Addr) (mc : Int32) (dc : Addr) (h0 : Heap) (n0 : Nat) (Z0 : n0 ≤ h0.size) (E0p : Exa Z h0 a1 "java/util/ArrayList") (F1p : Fld Z h0 a1 "java/util/AbstractList" "modCount" "I" (.int mc)) (F2p : Fld Z h0 a1 "java/util/ArrayList" "elementData" "[Ljava/lang/Object;" (.ref dc)) (F3p : Fld Z h0 a1 "java/util/ArrayList" "size" "I" (.int (0 : Int32))) (S4p : Sta Z h0 "java/util/ArrayList" "DEFAULTCAPACITY_EMPTY_ELEMENTDATA" "[Ljava/lang/Object;" (.ref dc)) (V5p : own_R Z h0 dc []) (L6p : own_Ex Z h0 []) (G_a1 : n0 ≤ a1) (ne_dc_a1 : dc ≠ a1) (hmir : Jvm.ShelfD.MirrorMade Z "[Ljava/lang/Object;") :
    MetFree l (⟨"java/util/ArrayList", "grow", "()[Ljava/lang/Object;"⟩ : MethodName) (head1 (Jvm.Cond.code (⟨"java/util/ArrayList", "grow", "()[Ljava/lang/Object;"⟩ : MethodName) jdk_38_method_7_code 1 (some (.array (.object "java/lang/Object"))) :: ws) ({ frames := 2, cells := 1, slots := 10, locals := 29 } : Room)) (fun a U => a = #[.ref a1] ∧ Z.Warmed39 U.vm ∧ U.heap = h0) (fun _ _ _ _ _ => True) (fun _ U o U' => ∃ v L, o = .returned v ∧ own_Q9_0 Z a1 mc dc h0 n0 v U'.heap L ∧ FrameEnd U o U' L ({ frames := 2, cells := 1, slots := 10, locals := 29 } : Room).cells ({ frames := 2, cells := 1, slots := 10, locals := 29 } : Room).slots) := by
  refine MetFree.of_bodySF (plainFor_of_name own_pn8) hisR ?_
  intro p e s m args below meth c s₁ Bd hml0 hP hK
  obtain ⟨rfl, hZ, hh⟩ := hP
  have hx := Bd.exec
  have hby := Bd.bytes
  have hml : c.maxLocals = 1 := hml0
  have hown : s.vm.findClass "java/util/ArrayList" = some m.cls := findClass_of_methodNamed Bd.named
  have hnm := (name_of_methodNamed Bd.named Bd.method).1
  have hlk : meth.locks = false := BodyLoose.notSynchronized Bd
  have X0 : Stand p l e ({ frames := 2, cells := 1, slots := 10, locals := 29 } : Room) s m #[.ref a1] below meth c s₁ [] 0 0 := Stand.of_body Bd
  have e0 : s₁.heap = h0 := by rw [← hh, Bd.state]; rfl
  have N0 := Fr.nil n0
  have K0 := Keep.refl h0 [a1]
  show own_Go p e below (own_E s 1 10 (own_Q9_0 Z a1 mc dc h0 n0)) (s₁.setTop (entryFrame m #[.ref a1] 1))
  rw [own_ef9]
  refine own_aloadN X0 hx (hb hby own_d9_0) (q := 1) rfl rfl rfl ?_
  refine own_aloadN X0 hx (hb hby own_d9_1) (q := 2) rfl rfl rfl ?_
  refine own_getF X0 hx hZ hown (host := "") (Or.inl (hw _ (List.mem_of_getElem? (i := 49) rfl))) Via.refl e0 F3p (hb hby own_d9_2) (q := 5) rfl (fun T220 X221 e222 => ?_)
  refine own_iconst X221 hx (v := (1 : Int32)) (hb hby own_d9_5) (q := 6) rfl rfl ?_
  refine own_iadd X221 hx (hb hby own_d9_6) (q := 7) rfl ?_
  rw [show ((0 : Int32) + (1 : Int32) : Int32) = (1 : Int32) from by decide]
  refine own_callQ X221 hx hZ hown (hw _ (List.mem_of_getElem? (i := 61) rfl)) (hw _ (List.mem_of_getElem? (i := 62) rfl)) (hw _ (List.mem_of_getElem? (i := 64) rfl)) (hw _ (List.mem_of_getElem? (i := 63) rfl)) (hw _ (List.mem_of_getElem? (i := 7) rfl)) (hw _ (List.mem_of_getElem? (i := 65) rfl)) E0p (by decide) (rm10_0 l Z a0 hw [] a1 mc dc h0 n0 Z0 E0p F1p F2p F3p S4p V5p L6p G_a1 ne_dc_a1 hmir) own_pd4 rfl e222 (by rw [hml]; rfl) (argsL := [.int (1 : Int32)]) (st := []) rfl (W := 0) (Nat.le_of_eq rfl) (by decide) (by decide) (by decide) (by decide) (hb hby own_d9_7) (q := 10) rfl (fun v226 T227 L228 X229 hQ230 => ?_)
  obtain ⟨a234, rfl, N231, K232, O235, A236, E237, F238, F239, F240, A241, L242⟩ := hQ230
  have S243 := own_staKeep S4p K232 (allS (own_exaPlain E0p) all0)
  have Z244 : n0 ≤ T227.heap.size := Nat.le_trans Z0 K232.1
  have K245 := K0.trans K232 (allS (Or.inl (List.mem_of_getElem? (i := 0) rfl)) all0)
  have N233 := Fr.app N0 N231
  have ne246 : a1 ≠ a234 := Nat.ne_of_lt (Nat.lt_of_lt_of_le E0p.lt O235)
  have ne247 : dc ≠ a234 := Nat.ne_of_lt (Nat.lt_of_lt_of_le V5p.lt O235)
  have Z248 : n0 ≤ a234 := Nat.le_trans Z0 O235
  have O249 : h0.size ≤ a234 := Nat.le_trans K0.1 O235
  show own_Go p e below (own_E s 1 10 (own_Q9_0 Z a1 mc dc h0 n0)) (T227.setTop (mkF m 10 #[.val (.ref a1)] [.ref a234]))
  refine own_retA X229 hx hlk rfl rfl rfl Bd.returns (hb hby own_d9_10) ?_ (by decide) (by decide)
  show own_Q9_0 Z a1 mc dc h0 n0 _ T227.heap _
  exact ⟨a234, rfl, N233, K245, O249, A236, E237, F238, F239, F240, A241, L242⟩

def own_Q9_10 (Z : State) (a1 : Addr) (mc : Int32) (ea : Addr) (v0 : Value) (v1 : Value) (v2 : Value) (v3 : Value) (v4 : Value) (v5 : Value) (v6 : Value) (v7 : Value) (v8 : Value) (v9 : Value) (h0 : Heap) (n0 : Nat) (v : Option Value) (h : Heap) (L : List Loc) : Prop := ∃ ra0 : Addr, v = some (.ref ra0) ∧ Fr n0 L ∧ Keep h0 h [a1] ∧ h0.size ≤ ra0 ∧ own_R Z h ra0 [v0, v1, v2, v3, v4, v5, v6, v7, v8, v9, .null, .null, .null, .null, .null] ∧ Exa Z h a1 "java/util/ArrayList" ∧ Fld Z h a1 "java/util/AbstractList" "modCount" "I" (.int mc) ∧ Fld Z h a1 "java/util/ArrayList" "elementData" "[Ljava/lang/Object;" (.ref ra0) ∧ Fld Z h a1 "java/util/ArrayList" "size" "I" (.int (10 : Int32)) ∧ own_R Z h ea [v0, v1, v2, v3, v4, v5, v6, v7, v8, v9] ∧ own_Ex Z h [v0, v1, v2, v3, v4, v5, v6, v7, v8, v9]
set_option maxRecDepth 65536 in
set_option maxHeartbeats 40000000 in
theorem rm9_10 (l : Launch) (Z : State) (a0 : Array Value) (hw : ∀ d ∈ tables_1, d.before a0 Z = true) (ws : List Jvm.Cond) (a1 : Addr) (mc : Int32) (ea : Addr) (v0 : Value) (v1 : Value) (v2 : Value) (v3 : Value) (v4 : Value) (v5 : Value) (v6 : Value) (v7 : Value) (v8 : Value) (v9 : Value) (h0 : Heap) (n0 : Nat) (Z0 : n0 ≤ h0.size) (E0p : Exa Z h0 a1 "java/util/ArrayList") (F1p : Fld Z h0 a1 "java/util/AbstractList" "modCount" "I" (.int mc)) (F2p : Fld Z h0 a1 "java/util/ArrayList" "elementData" "[Ljava/lang/Object;" (.ref ea)) (F3p : Fld Z h0 a1 "java/util/ArrayList" "size" "I" (.int (10 : Int32))) (V4p : own_R Z h0 ea [v0, v1, v2, v3, v4, v5, v6, v7, v8, v9]) (L5p : own_Ex Z h0 [v0, v1, v2, v3, v4, v5, v6, v7, v8, v9]) (G_a1 : n0 ≤ a1) (ne_ea_a1 : ea ≠ a1) (hmir : Jvm.ShelfD.MirrorMade Z "[Ljava/lang/Object;") :
    MetFree l (⟨"java/util/ArrayList", "grow", "()[Ljava/lang/Object;"⟩ : MethodName) (head1 (Jvm.Cond.code (⟨"java/util/ArrayList", "grow", "()[Ljava/lang/Object;"⟩ : MethodName) jdk_38_method_7_code 1 (some (.array (.object "java/lang/Object"))) :: ws) ({ frames := 5, cells := 1, slots := 15, locals := 93 } : Room)) (fun a U => a = #[.ref a1] ∧ Z.Warmed39 U.vm ∧ U.heap = h0) (fun _ _ _ _ _ => True) (fun _ U o U' => ∃ v L, o = .returned v ∧ own_Q9_10 Z a1 mc ea v0 v1 v2 v3 v4 v5 v6 v7 v8 v9 h0 n0 v U'.heap L ∧ FrameEnd U o U' L ({ frames := 5, cells := 1, slots := 15, locals := 93 } : Room).cells ({ frames := 5, cells := 1, slots := 15, locals := 93 } : Room).slots) := by
  refine MetFree.of_bodySF (plainFor_of_name own_pn8) hisR ?_
  intro p e s m args below meth c s₁ Bd hml0 hP hK
  obtain ⟨rfl, hZ, hh⟩ := hP
  have hx := Bd.exec
  have hby := Bd.bytes
  have hml : c.maxLocals = 1 := hml0
  have hown : s.vm.findClass "java/util/ArrayList" = some m.cls := findClass_of_methodNamed Bd.named
  have hnm := (name_of_methodNamed Bd.named Bd.method).1
  have hlk : meth.locks = false := BodyLoose.notSynchronized Bd
  have X0 : Stand p l e ({ frames := 5, cells := 1, slots := 15, locals := 93 } : Room) s m #[.ref a1] below meth c s₁ [] 0 0 := Stand.of_body Bd
  have e0 : s₁.heap = h0 := by rw [← hh, Bd.state]; rfl
  have N0 := Fr.nil n0
  have K0 := Keep.refl h0 [a1]
  show own_Go p e below (own_E s 1 15 (own_Q9_10 Z a1 mc ea v0 v1 v2 v3 v4 v5 v6 v7 v8 v9 h0 n0)) (s₁.setTop (entryFrame m #[.ref a1] 1))
  rw [own_ef9]
  refine own_aloadN X0 hx (hb hby own_d9_0) (q := 1) rfl rfl rfl ?_
  refine own_aloadN X0 hx (hb hby own_d9_1) (q := 2) rfl rfl rfl ?_
  refine own_getF X0 hx hZ hown (host := "") (Or.inl (hw _ (List.mem_of_getElem? (i := 49) rfl))) Via.refl e0 F3p (hb hby own_d9_2) (q := 5) rfl (fun T250 X251 e252 => ?_)
  refine own_iconst X251 hx (v := (1 : Int32)) (hb hby own_d9_5) (q := 6) rfl rfl ?_
  refine own_iadd X251 hx (hb hby own_d9_6) (q := 7) rfl ?_
  rw [show ((10 : Int32) + (1 : Int32) : Int32) = (11 : Int32) from by decide]
  refine own_callQ X251 hx hZ hown (hw _ (List.mem_of_getElem? (i := 61) rfl)) (hw _ (List.mem_of_getElem? (i := 62) rfl)) (hw _ (List.mem_of_getElem? (i := 64) rfl)) (hw _ (List.mem_of_getElem? (i := 63) rfl)) (hw _ (List.mem_of_getElem? (i := 7) rfl)) (hw _ (List.mem_of_getElem? (i := 65) rfl)) E0p (by decide) (rm10_10 l Z a0 hw [] a1 mc ea v0 v1 v2 v3 v4 v5 v6 v7 v8 v9 h0 n0 Z0 E0p F1p F2p F3p V4p L5p G_a1 ne_ea_a1 hmir) own_pd4 rfl e252 (by rw [hml]; rfl) (argsL := [.int (11 : Int32)]) (st := []) rfl (W := 0) (Nat.le_of_eq rfl) (by decide) (by decide) (by decide) (by decide) (hb hby own_d9_7) (q := 10) rfl (fun v256 T257 L258 X259 hQ260 => ?_)
  obtain ⟨a264, rfl, N261, K262, O265, A266, E267, F268, F269, F270, A271, L272⟩ := hQ260
  have Z273 : n0 ≤ T257.heap.size := Nat.le_trans Z0 K262.1
  have K274 := K0.trans K262 (allS (Or.inl (List.mem_of_getElem? (i := 0) rfl)) all0)
  have N263 := Fr.app N0 N261
  have ne275 : a1 ≠ a264 := Nat.ne_of_lt (Nat.lt_of_lt_of_le E0p.lt O265)
  have ne276 : ea ≠ a264 := Nat.ne_of_lt (Nat.lt_of_lt_of_le V4p.lt O265)
  have Z277 : n0 ≤ a264 := Nat.le_trans Z0 O265
  have O278 : h0.size ≤ a264 := Nat.le_trans K0.1 O265
  show own_Go p e below (own_E s 1 15 (own_Q9_10 Z a1 mc ea v0 v1 v2 v3 v4 v5 v6 v7 v8 v9 h0 n0)) (T257.setTop (mkF m 10 #[.val (.ref a1)] [.ref a264]))
  refine own_retA X259 hx hlk rfl rfl rfl Bd.returns (hb hby own_d9_10) ?_ (by decide) (by decide)
  show own_Q9_10 Z a1 mc ea v0 v1 v2 v3 v4 v5 v6 v7 v8 v9 h0 n0 _ T257.heap _
  exact ⟨a264, rfl, N263, K274, O278, A266, E267, F268, F269, F270, A271, L272⟩

def own_Q9_15 (Z : State) (a1 : Addr) (mc : Int32) (ea : Addr) (v0 : Value) (v1 : Value) (v2 : Value) (v3 : Value) (v4 : Value) (v5 : Value) (v6 : Value) (v7 : Value) (v8 : Value) (v9 : Value) (v10 : Value) (v11 : Value) (v12 : Value) (v13 : Value) (v14 : Value) (h0 : Heap) (n0 : Nat) (v : Option Value) (h : Heap) (L : List Loc) : Prop := ∃ ra0 : Addr, v = some (.ref ra0) ∧ Fr n0 L ∧ Keep h0 h [a1] ∧ h0.size ≤ ra0 ∧ own_R Z h ra0 [v0, v1, v2, v3, v4, v5, v6, v7, v8, v9, v10, v11, v12, v13, v14, .null, .null, .null, .null, .null, .null, .null] ∧ Exa Z h a1 "java/util/ArrayList" ∧ Fld Z h a1 "java/util/AbstractList" "modCount" "I" (.int mc) ∧ Fld Z h a1 "java/util/ArrayList" "elementData" "[Ljava/lang/Object;" (.ref ra0) ∧ Fld Z h a1 "java/util/ArrayList" "size" "I" (.int (15 : Int32)) ∧ own_R Z h ea [v0, v1, v2, v3, v4, v5, v6, v7, v8, v9, v10, v11, v12, v13, v14] ∧ own_Ex Z h [v0, v1, v2, v3, v4, v5, v6, v7, v8, v9, v10, v11, v12, v13, v14]
set_option maxRecDepth 65536 in
set_option maxHeartbeats 40000000 in
theorem rm9_15 (l : Launch) (Z : State) (a0 : Array Value) (hw : ∀ d ∈ tables_1, d.before a0 Z = true) (ws : List Jvm.Cond) (a1 : Addr) (mc : Int32) (ea : Addr) (v0 : Value) (v1 : Value) (v2 : Value) (v3 : Value) (v4 : Value) (v5 : Value) (v6 : Value) (v7 : Value) (v8 : Value) (v9 : Value) (v10 : Value) (v11 : Value) (v12 : Value) (v13 : Value) (v14 : Value) (h0 : Heap) (n0 : Nat) (Z0 : n0 ≤ h0.size) (E0p : Exa Z h0 a1 "java/util/ArrayList") (F1p : Fld Z h0 a1 "java/util/AbstractList" "modCount" "I" (.int mc)) (F2p : Fld Z h0 a1 "java/util/ArrayList" "elementData" "[Ljava/lang/Object;" (.ref ea)) (F3p : Fld Z h0 a1 "java/util/ArrayList" "size" "I" (.int (15 : Int32))) (V4p : own_R Z h0 ea [v0, v1, v2, v3, v4, v5, v6, v7, v8, v9, v10, v11, v12, v13, v14]) (L5p : own_Ex Z h0 [v0, v1, v2, v3, v4, v5, v6, v7, v8, v9, v10, v11, v12, v13, v14]) (G_a1 : n0 ≤ a1) (ne_ea_a1 : ea ≠ a1) (hmir : Jvm.ShelfD.MirrorMade Z "[Ljava/lang/Object;") :
    MetFree l (⟨"java/util/ArrayList", "grow", "()[Ljava/lang/Object;"⟩ : MethodName) (head1 (Jvm.Cond.code (⟨"java/util/ArrayList", "grow", "()[Ljava/lang/Object;"⟩ : MethodName) jdk_38_method_7_code 1 (some (.array (.object "java/lang/Object"))) :: ws) ({ frames := 5, cells := 1, slots := 22, locals := 93 } : Room)) (fun a U => a = #[.ref a1] ∧ Z.Warmed39 U.vm ∧ U.heap = h0) (fun _ _ _ _ _ => True) (fun _ U o U' => ∃ v L, o = .returned v ∧ own_Q9_15 Z a1 mc ea v0 v1 v2 v3 v4 v5 v6 v7 v8 v9 v10 v11 v12 v13 v14 h0 n0 v U'.heap L ∧ FrameEnd U o U' L ({ frames := 5, cells := 1, slots := 22, locals := 93 } : Room).cells ({ frames := 5, cells := 1, slots := 22, locals := 93 } : Room).slots) := by
  refine MetFree.of_bodySF (plainFor_of_name own_pn8) hisR ?_
  intro p e s m args below meth c s₁ Bd hml0 hP hK
  obtain ⟨rfl, hZ, hh⟩ := hP
  have hx := Bd.exec
  have hby := Bd.bytes
  have hml : c.maxLocals = 1 := hml0
  have hown : s.vm.findClass "java/util/ArrayList" = some m.cls := findClass_of_methodNamed Bd.named
  have hnm := (name_of_methodNamed Bd.named Bd.method).1
  have hlk : meth.locks = false := BodyLoose.notSynchronized Bd
  have X0 : Stand p l e ({ frames := 5, cells := 1, slots := 22, locals := 93 } : Room) s m #[.ref a1] below meth c s₁ [] 0 0 := Stand.of_body Bd
  have e0 : s₁.heap = h0 := by rw [← hh, Bd.state]; rfl
  have N0 := Fr.nil n0
  have K0 := Keep.refl h0 [a1]
  show own_Go p e below (own_E s 1 22 (own_Q9_15 Z a1 mc ea v0 v1 v2 v3 v4 v5 v6 v7 v8 v9 v10 v11 v12 v13 v14 h0 n0)) (s₁.setTop (entryFrame m #[.ref a1] 1))
  rw [own_ef9]
  refine own_aloadN X0 hx (hb hby own_d9_0) (q := 1) rfl rfl rfl ?_
  refine own_aloadN X0 hx (hb hby own_d9_1) (q := 2) rfl rfl rfl ?_
  refine own_getF X0 hx hZ hown (host := "") (Or.inl (hw _ (List.mem_of_getElem? (i := 49) rfl))) Via.refl e0 F3p (hb hby own_d9_2) (q := 5) rfl (fun T279 X280 e281 => ?_)
  refine own_iconst X280 hx (v := (1 : Int32)) (hb hby own_d9_5) (q := 6) rfl rfl ?_
  refine own_iadd X280 hx (hb hby own_d9_6) (q := 7) rfl ?_
  rw [show ((15 : Int32) + (1 : Int32) : Int32) = (16 : Int32) from by decide]
  refine own_callQ X280 hx hZ hown (hw _ (List.mem_of_getElem? (i := 61) rfl)) (hw _ (List.mem_of_getElem? (i := 62) rfl)) (hw _ (List.mem_of_getElem? (i := 64) rfl)) (hw _ (List.mem_of_getElem? (i := 63) rfl)) (hw _ (List.mem_of_getElem? (i := 7) rfl)) (hw _ (List.mem_of_getElem? (i := 65) rfl)) E0p (by decide) (rm10_15 l Z a0 hw [] a1 mc ea v0 v1 v2 v3 v4 v5 v6 v7 v8 v9 v10 v11 v12 v13 v14 h0 n0 Z0 E0p F1p F2p F3p V4p L5p G_a1 ne_ea_a1 hmir) own_pd4 rfl e281 (by rw [hml]; rfl) (argsL := [.int (16 : Int32)]) (st := []) rfl (W := 0) (Nat.le_of_eq rfl) (by decide) (by decide) (by decide) (by decide) (hb hby own_d9_7) (q := 10) rfl (fun v285 T286 L287 X288 hQ289 => ?_)
  obtain ⟨a293, rfl, N290, K291, O294, A295, E296, F297, F298, F299, A300, L301⟩ := hQ289
  have Z302 : n0 ≤ T286.heap.size := Nat.le_trans Z0 K291.1
  have K303 := K0.trans K291 (allS (Or.inl (List.mem_of_getElem? (i := 0) rfl)) all0)
  have N292 := Fr.app N0 N290
  have ne304 : a1 ≠ a293 := Nat.ne_of_lt (Nat.lt_of_lt_of_le E0p.lt O294)
  have ne305 : ea ≠ a293 := Nat.ne_of_lt (Nat.lt_of_lt_of_le V4p.lt O294)
  have Z306 : n0 ≤ a293 := Nat.le_trans Z0 O294
  have O307 : h0.size ≤ a293 := Nat.le_trans K0.1 O294
  show own_Go p e below (own_E s 1 22 (own_Q9_15 Z a1 mc ea v0 v1 v2 v3 v4 v5 v6 v7 v8 v9 v10 v11 v12 v13 v14 h0 n0)) (T286.setTop (mkF m 10 #[.val (.ref a1)] [.ref a293]))
  refine own_retA X288 hx hlk rfl rfl rfl Bd.returns (hb hby own_d9_10) ?_ (by decide) (by decide)
  show own_Q9_15 Z a1 mc ea v0 v1 v2 v3 v4 v5 v6 v7 v8 v9 v10 v11 v12 v13 v14 h0 n0 _ T286.heap _
  exact ⟨a293, rfl, N292, K303, O307, A295, E296, F297, F298, F299, A300, L301⟩
theorem own_pd5 : parseMethodDescriptor "()[Ljava/lang/Object;" = some ⟨[], some (.array (.object "java/lang/Object"))⟩ := by decide +kernel
theorem own_ef8_k0 (m : MethodId) (a1 : Addr) (a2 : Addr) (a3 : Addr) : entryFrame m #[.ref a1, .ref a2, .ref a3, .int (0 : Int32)] 4 = mkF m 0 #[.val (.ref a1), .val (.ref a2), .val (.ref a3), .val (.int (0 : Int32))] [] := by first | (simp [entryFrame, mkF, argsToLocals, Value.category]; done) | rfl
theorem own_d8_0 : decode jdk_38_method_24_code 0 = .ok (.iload_n 3, 1) := by decide +kernel
theorem own_d8_1 : decode jdk_38_method_24_code 1 = .ok (.aload_n 2, 1) := by decide +kernel
theorem own_d8_2 : decode jdk_38_method_24_code 2 = .ok (.arraylength, 1) := by decide +kernel
theorem own_d8_3 : decode jdk_38_method_24_code 3 = .ok (.if_icmp .ne 8, 3) := by decide +kernel
theorem own_d8_6 : decode jdk_38_method_24_code 6 = .ok (.aload_n 0, 1) := by decide +kernel
theorem own_d8_7 : decode jdk_38_method_24_code 7 = .ok (.invokevirtual 129, 3) := by decide +kernel
theorem own_d8_10 : decode jdk_38_method_24_code 10 = .ok (.astore_n 2, 1) := by decide +kernel
theorem own_d8_11 : decode jdk_38_method_24_code 11 = .ok (.aload_n 2, 1) := by decide +kernel
theorem own_d8_12 : decode jdk_38_method_24_code 12 = .ok (.iload_n 3, 1) := by decide +kernel
theorem own_d8_13 : decode jdk_38_method_24_code 13 = .ok (.aload_n 1, 1) := by decide +kernel
theorem own_d8_14 : decode jdk_38_method_24_code 14 = .ok (.aastore, 1) := by decide +kernel
theorem own_d8_15 : decode jdk_38_method_24_code 15 = .ok (.aload_n 0, 1) := by decide +kernel
theorem own_d8_16 : decode jdk_38_method_24_code 16 = .ok (.iload_n 3, 1) := by decide +kernel
theorem own_d8_17 : decode jdk_38_method_24_code 17 = .ok (.iconst 1, 1) := by decide +kernel
theorem own_d8_18 : decode jdk_38_method_24_code 18 = .ok (.iadd, 1) := by decide +kernel
theorem own_d8_19 : decode jdk_38_method_24_code 19 = .ok (.putfield 48, 3) := by decide +kernel
theorem own_d8_22 : decode jdk_38_method_24_code 22 = .ok (.return_, 1) := by decide +kernel
def own_Q8_0 (Z : State) (a1 : Addr) (a2 : Addr) (a3 : Addr) (mc : Int32) (h0 : Heap) (n0 : Nat) (v : Option Value) (h : Heap) (L : List Loc) : Prop := ∃ ra0 : Addr, v = none ∧ Fr n0 L ∧ Keep h0 h [a1] ∧ h0.size ≤ ra0 ∧ own_R Z h ra0 [.ref a2, .null, .null, .null, .null, .null, .null, .null, .null, .null] ∧ Exa Z h a1 "java/util/ArrayList" ∧ Fld Z h a1 "java/util/AbstractList" "modCount" "I" (.int mc) ∧ Fld Z h a1 "java/util/ArrayList" "elementData" "[Ljava/lang/Object;" (.ref ra0) ∧ Fld Z h a1 "java/util/ArrayList" "size" "I" (.int (1 : Int32)) ∧ own_R Z h a3 [] ∧ own_Ex Z h [] ∧ Exa Z h a2 "java/lang/Integer"
set_option maxRecDepth 65536 in
set_option maxHeartbeats 40000000 in
theorem rm8_0 (l : Launch) (Z : State) (a0 : Array Value) (hw : ∀ d ∈ tables_1, d.before a0 Z = true) (ws : List Jvm.Cond) (a1 : Addr) (a2 : Addr) (a3 : Addr) (mc : Int32) (h0 : Heap) (n0 : Nat) (Z0 : n0 ≤ h0.size) (E0p : Exa Z h0 a1 "java/util/ArrayList") (F1p : Fld Z h0 a1 "java/util/AbstractList" "modCount" "I" (.int mc)) (F2p : Fld Z h0 a1 "java/util/ArrayList" "elementData" "[Ljava/lang/Object;" (.ref a3)) (F3p : Fld Z h0 a1 "java/util/ArrayList" "size" "I" (.int (0 : Int32))) (S4p : Sta Z h0 "java/util/ArrayList" "DEFAULTCAPACITY_EMPTY_ELEMENTDATA" "[Ljava/lang/Object;" (.ref a3)) (V5p : own_R Z h0 a3 []) (L6p : own_Ex Z h0 []) (E7p : Exa Z h0 a2 "java/lang/Integer") (G_a1 : n0 ≤ a1) (ne_a3_a1 : a3 ≠ a1) (ne_a2_a1 : a2 ≠ a1) (hmir : Jvm.ShelfD.MirrorMade Z "[Ljava/lang/Object;") :
    MetFree l (⟨"java/util/ArrayList", "add", "(Ljava/lang/Object;[Ljava/lang/Object;I)V"⟩ : MethodName) (head1 (Jvm.Cond.code (⟨"java/util/ArrayList", "add", "(Ljava/lang/Object;[Ljava/lang/Object;I)V"⟩ : MethodName) jdk_38_method_24_code 4 none :: ws) ({ frames := 3, cells := 1, slots := 10, locals := 41 } : Room)) (fun a U => a = #[.ref a1, .ref a2, .ref a3, .int (0 : Int32)] ∧ Z.Warmed39 U.vm ∧ U.heap = h0) (fun _ _ _ _ _ => True) (fun _ U o U' => ∃ v L, o = .returned v ∧ own_Q8_0 Z a1 a2 a3 mc h0 n0 v U'.heap L ∧ FrameEnd U o U' L ({ frames := 3, cells := 1, slots := 10, locals := 41 } : Room).cells ({ frames := 3, cells := 1, slots := 10, locals := 41 } : Room).slots) := by
  refine MetFree.of_bodySF (plainFor_of_name own_pn8) hisR ?_
  intro p e s m args below meth c s₁ Bd hml0 hP hK
  obtain ⟨rfl, hZ, hh⟩ := hP
  have hx := Bd.exec
  have hby := Bd.bytes
  have hml : c.maxLocals = 4 := hml0
  have hown : s.vm.findClass "java/util/ArrayList" = some m.cls := findClass_of_methodNamed Bd.named
  have hnm := (name_of_methodNamed Bd.named Bd.method).1
  have hlk : meth.locks = false := BodyLoose.notSynchronized Bd
  have X0 : Stand p l e ({ frames := 3, cells := 1, slots := 10, locals := 41 } : Room) s m #[.ref a1, .ref a2, .ref a3, .int (0 : Int32)] below meth c s₁ [] 0 0 := Stand.of_body Bd
  have e0 : s₁.heap = h0 := by rw [← hh, Bd.state]; rfl
  have N0 := Fr.nil n0
  have K0 := Keep.refl h0 [a1]
  show own_Go p e below (own_E s 1 10 (own_Q8_0 Z a1 a2 a3 mc h0 n0)) (s₁.setTop (entryFrame m #[.ref a1, .ref a2, .ref a3, .int (0 : Int32)] 4))
  rw [own_ef8_k0]
  refine own_iloadN X0 hx (hb hby own_d8_0) (q := 1) rfl rfl ?_
  refine own_aloadN X0 hx (hb hby own_d8_1) (q := 2) rfl rfl rfl ?_
  refine own_alen X0 hx hZ (n := (0 : Int32)) e0 V5p.arr rfl (hb hby own_d8_2) (q := 3) rfl ?_
  refine own_icmpM X0 hx (hb hby own_d8_3) (cd := .ne) (x := (0 : Int32)) (y := (0 : Int32)) (pt := 11) (q := 6) (by decide) (by decide) rfl rfl (fun h => False.elim (h ((by decide) : (0 : Int32) = (0 : Int32)))) (fun _ => ?_)
  refine own_aloadN X0 hx (hb hby own_d8_6) (q := 7) rfl rfl rfl ?_
  refine own_callQ X0 hx hZ hown (hw _ (List.mem_of_getElem? (i := 56) rfl)) (hw _ (List.mem_of_getElem? (i := 57) rfl)) (hw _ (List.mem_of_getElem? (i := 59) rfl)) (hw _ (List.mem_of_getElem? (i := 58) rfl)) (hw _ (List.mem_of_getElem? (i := 7) rfl)) (hw _ (List.mem_of_getElem? (i := 60) rfl)) E0p (by decide) (rm9_0 l Z a0 hw [] a1 mc a3 h0 n0 Z0 E0p F1p F2p F3p S4p V5p L6p G_a1 ne_a3_a1 hmir) own_pd5 rfl e0 (by rw [hml]; rfl) (argsL := []) (st := []) rfl (W := 0) (Nat.le_of_eq rfl) (by decide) (by decide) (by decide) (by decide) (hb hby own_d8_7) (q := 10) rfl (fun v311 T312 L313 X314 hQ315 => ?_)
  obtain ⟨a319, rfl, N316, K317, O320, A321, E322, F323, F324, F325, A326, L327⟩ := hQ315
  have S328 := own_staKeep S4p K317 (allS (own_exaPlain E0p) all0)
  have E329 := E7p.keep K317
  have Z330 : n0 ≤ T312.heap.size := Nat.le_trans Z0 K317.1
  have K331 := K0.trans K317 (allS (Or.inl (List.mem_of_getElem? (i := 0) rfl)) all0)
  have N318 := Fr.app N0 N316
  have ne332 : a1 ≠ a319 := Nat.ne_of_lt (Nat.lt_of_lt_of_le E0p.lt O320)
  have ne333 : a3 ≠ a319 := Nat.ne_of_lt (Nat.lt_of_lt_of_le V5p.lt O320)
  have ne334 : a2 ≠ a319 := Nat.ne_of_lt (Nat.lt_of_lt_of_le E7p.lt O320)
  have Z335 : n0 ≤ a319 := Nat.le_trans Z0 O320
  have O336 : h0.size ≤ a319 := Nat.le_trans K0.1 O320
  show own_Go p e below (own_E s 1 10 (own_Q8_0 Z a1 a2 a3 mc h0 n0)) (T312.setTop (mkF m 10 #[.val (.ref a1), .val (.ref a2), .val (.ref a3), .val (.int (0 : Int32))] [.ref a319]))
  refine own_astoreN (L' := #[.val (.ref a1), .val (.ref a2), .val (.ref a319), .val (.int (0 : Int32))]) X314 hx (hb hby own_d8_10) (q := 11) rfl rfl rfl ?_
  refine own_aloadN X314 hx (hb hby own_d8_11) (q := 12) rfl rfl rfl ?_
  refine own_iloadN X314 hx (hb hby own_d8_12) (q := 13) rfl rfl ?_
  refine own_aloadN X314 hx (hb hby own_d8_13) (q := 14) rfl rfl rfl ?_
  refine own_aastore X314 hx hZ (i := 0) rfl A321 (by decide) (by decide) (Nat.le_of_ble_eq_true rfl) (A321.sto (Ins.of_exa E329 (hw _ (List.mem_of_getElem? (i := 72) rfl)))) (hb hby own_d8_14) (q := 15) rfl (fun T337 h340 X338 e339 W341 A342 => ?_)
  replace A342 : own_R Z h340 a319 [.ref a2, .null, .null, .null, .null, .null, .null, .null, .null, .null] := A342
  have E343 := Exa.wr W341 E322
  have F344 := Fld.other W341 F323 (Or.inl ne332)
  have F345 := Fld.other W341 F324 (Or.inl ne332)
  have F346 := Fld.other W341 F325 (Or.inl ne332)
  have S347 := Sta.wr W341 S328
  have A348 := A326.other W341 ne333
  have L349 := L327.wr W341
  have E350 := Exa.wr W341 E329
  have K351 := K331.wr W341 (Or.inr O336)
  have Z352 : n0 ≤ h340.size := W341.size ▸ Z330
  have N353 := Fr.snoc X338 N318 Z335
  refine own_aloadN X338 hx (hb hby own_d8_15) (q := 16) rfl rfl rfl ?_
  refine own_iloadN X338 hx (hb hby own_d8_16) (q := 17) rfl rfl ?_
  refine own_iconst X338 hx (v := (1 : Int32)) (hb hby own_d8_17) (q := 18) rfl rfl ?_
  refine own_iadd X338 hx (hb hby own_d8_18) (q := 19) rfl ?_
  rw [show ((0 : Int32) + (1 : Int32) : Int32) = (1 : Int32) from by decide]
  refine own_putF X338 hx hZ hown (host := "") (Or.inl (hw _ (List.mem_of_getElem? (i := 49) rfl))) Via.refl e339 F346 E343 (Or.inl (hw _ (List.mem_of_getElem? (i := 50) rfl))) (hw _ (List.mem_of_getElem? (i := 6) rfl)) (ty := .int) (by decide) rfl rfl (hb hby own_d8_19) (q := 22) rfl (fun T354 h357 X355 e356 W358 => ?_)
  have E359 := Exa.wr W358 E343
  have F360 := Fld.other W358 F344 (Or.inr (slot_ne (C := "java/util/ArrayList") (Or.inl (hw _ (List.mem_of_getElem? (i := 27) rfl))) (Or.inl (hw _ (List.mem_of_getElem? (i := 50) rfl))) (by decide) (t := .int) (t' := .int) (by decide) (by decide)))
  have F361 := Fld.other W358 F345 (Or.inr (slot_ne (C := "java/util/ArrayList") (Or.inl (hw _ (List.mem_of_getElem? (i := 30) rfl))) (Or.inl (hw _ (List.mem_of_getElem? (i := 50) rfl))) (by decide) (t := (.array (.object "java/lang/Object"))) (t' := .int) (by decide) (by decide)))
  have F362 := Fld.same W358 F346
  have S363 := Sta.wr W358 S347
  have A364 := A348.other W358 ne_a3_a1
  have L365 := L349.wr W358
  have E366 := Exa.wr W358 E350
  have A367 := A342.other W358 (Ne.symm ne332)
  have K368 := K351.wr W358 (Or.inl (List.mem_of_getElem? (i := 0) rfl))
  have Z369 : n0 ≤ h357.size := W358.size ▸ Z352
  have N370 := Fr.snoc X355 N353 G_a1
  refine own_retV X355 hx hlk (rest := []) Bd.returns (hb hby own_d8_22) ?_ (by decide) (by decide)
  show own_Q8_0 Z a1 a2 a3 mc h0 n0 _ T354.heap _
  rw [e356]
  exact ⟨a319, rfl, N370, K368, O336, A367, E359, F360, F361, F362, A364, L365, E366⟩
theorem own_pd6 : parseMethodDescriptor "(Ljava/lang/Object;[Ljava/lang/Object;I)V" = some ⟨[(.object "java/lang/Object"), (.array (.object "java/lang/Object")), .int], none⟩ := by decide +kernel
theorem own_ef7 (m : MethodId) (a1 : Addr) (a2 : Addr) : entryFrame m #[.ref a1, .ref a2] 2 = mkF m 0 #[.val (.ref a1), .val (.ref a2)] [] := by first | (simp [entryFrame, mkF, argsToLocals, Value.category]; done) | rfl
theorem own_d7_0 : decode jdk_38_method_25_code 0 = .ok (.aload_n 0, 1) := by decide +kernel
theorem own_d7_1 : decode jdk_38_method_25_code 1 = .ok (.dup, 1) := by decide +kernel
theorem own_d7_2 : decode jdk_38_method_25_code 2 = .ok (.getfield 63, 3) := by decide +kernel
theorem own_d7_5 : decode jdk_38_method_25_code 5 = .ok (.iconst 1, 1) := by decide +kernel
theorem own_d7_6 : decode jdk_38_method_25_code 6 = .ok (.iadd, 1) := by decide +kernel
theorem own_d7_7 : decode jdk_38_method_25_code 7 = .ok (.putfield 63, 3) := by decide +kernel
theorem own_d7_10 : decode jdk_38_method_25_code 10 = .ok (.aload_n 0, 1) := by decide +kernel
theorem own_d7_11 : decode jdk_38_method_25_code 11 = .ok (.aload_n 1, 1) := by decide +kernel
theorem own_d7_12 : decode jdk_38_method_25_code 12 = .ok (.aload_n 0, 1) := by decide +kernel
theorem own_d7_13 : decode jdk_38_method_25_code 13 = .ok (.getfield 9, 3) := by decide +kernel
theorem own_d7_16 : decode jdk_38_method_25_code 16 = .ok (.aload_n 0, 1) := by decide +kernel
theorem own_d7_17 : decode jdk_38_method_25_code 17 = .ok (.getfield 48, 3) := by decide +kernel
theorem own_d7_20 : decode jdk_38_method_25_code 20 = .ok (.invokevirtual 131, 3) := by decide +kernel
theorem own_d7_23 : decode jdk_38_method_25_code 23 = .ok (.iconst 1, 1) := by decide +kernel
theorem own_d7_24 : decode jdk_38_method_25_code 24 = .ok (.ireturn, 1) := by decide +kernel
def own_Q7_0 (Z : State) (a1 : Addr) (a2 : Addr) (mc : Int32) (dc : Addr) (h0 : Heap) (n0 : Nat) (v : Option Value) (h : Heap) (L : List Loc) : Prop := ∃ ra0 : Addr, v = some (.int (1 : Int32)) ∧ Fr n0 L ∧ Keep h0 h [a1] ∧ h0.size ≤ ra0 ∧ own_R Z h ra0 [.ref a2, .null, .null, .null, .null, .null, .null, .null, .null, .null] ∧ Exa Z h a1 "java/util/ArrayList" ∧ Fld Z h a1 "java/util/AbstractList" "modCount" "I" (.int (mc + (1 : Int32))) ∧ Fld Z h a1 "java/util/ArrayList" "elementData" "[Ljava/lang/Object;" (.ref ra0) ∧ Fld Z h a1 "java/util/ArrayList" "size" "I" (.int (1 : Int32)) ∧ own_R Z h dc [] ∧ own_Ex Z h [] ∧ Exa Z h a2 "java/lang/Integer"
set_option maxRecDepth 65536 in
set_option maxHeartbeats 40000000 in
theorem rm7_0 (l : Launch) (Z : State) (a0 : Array Value) (hw : ∀ d ∈ tables_1, d.before a0 Z = true) (ws : List Jvm.Cond) (a1 : Addr) (a2 : Addr) (mc : Int32) (dc : Addr) (h0 : Heap) (n0 : Nat) (Z0 : n0 ≤ h0.size) (E0p : Exa Z h0 a1 "java/util/ArrayList") (F1p : Fld Z h0 a1 "java/util/AbstractList" "modCount" "I" (.int mc)) (F2p : Fld Z h0 a1 "java/util/ArrayList" "elementData" "[Ljava/lang/Object;" (.ref dc)) (F3p : Fld Z h0 a1 "java/util/ArrayList" "size" "I" (.int (0 : Int32))) (S4p : Sta Z h0 "java/util/ArrayList" "DEFAULTCAPACITY_EMPTY_ELEMENTDATA" "[Ljava/lang/Object;" (.ref dc)) (V5p : own_R Z h0 dc []) (L6p : own_Ex Z h0 []) (E7p : Exa Z h0 a2 "java/lang/Integer") (G_a1 : n0 ≤ a1) (ne_dc_a1 : dc ≠ a1) (ne_a2_a1 : a2 ≠ a1) (hmir : Jvm.ShelfD.MirrorMade Z "[Ljava/lang/Object;") :
    MetFree l (⟨"java/util/ArrayList", "add", "(Ljava/lang/Object;)Z"⟩ : MethodName) (head1 (Jvm.Cond.code (⟨"java/util/ArrayList", "add", "(Ljava/lang/Object;)Z"⟩ : MethodName) jdk_38_method_25_code 2 (some .boolean) :: ws) ({ frames := 4, cells := 1, slots := 10, locals := 56 } : Room)) (fun a U => a = #[.ref a1, .ref a2] ∧ Z.Warmed39 U.vm ∧ U.heap = h0) (fun _ _ _ _ _ => True) (fun _ U o U' => ∃ v L, o = .returned v ∧ own_Q7_0 Z a1 a2 mc dc h0 n0 v U'.heap L ∧ FrameEnd U o U' L ({ frames := 4, cells := 1, slots := 10, locals := 56 } : Room).cells ({ frames := 4, cells := 1, slots := 10, locals := 56 } : Room).slots) := by
  refine MetFree.of_bodySF (plainFor_of_name own_pn8) hisR ?_
  intro p e s m args below meth c s₁ Bd hml0 hP hK
  obtain ⟨rfl, hZ, hh⟩ := hP
  have hx := Bd.exec
  have hby := Bd.bytes
  have hml : c.maxLocals = 2 := hml0
  have hown : s.vm.findClass "java/util/ArrayList" = some m.cls := findClass_of_methodNamed Bd.named
  have hnm := (name_of_methodNamed Bd.named Bd.method).1
  have hlk : meth.locks = false := BodyLoose.notSynchronized Bd
  have X0 : Stand p l e ({ frames := 4, cells := 1, slots := 10, locals := 56 } : Room) s m #[.ref a1, .ref a2] below meth c s₁ [] 0 0 := Stand.of_body Bd
  have e0 : s₁.heap = h0 := by rw [← hh, Bd.state]; rfl
  have N0 := Fr.nil n0
  have K0 := Keep.refl h0 [a1]
  show own_Go p e below (own_E s 1 10 (own_Q7_0 Z a1 a2 mc dc h0 n0)) (s₁.setTop (entryFrame m #[.ref a1, .ref a2] 2))
  rw [own_ef7]
  refine own_aloadN X0 hx (hb hby own_d7_0) (q := 1) rfl rfl rfl ?_
  refine own_dup X0 hx (hb hby own_d7_1) (q := 2) rfl rfl ?_
  refine own_getF X0 hx hZ hown (host := "") (Or.inl (hw _ (List.mem_of_getElem? (i := 47) rfl))) (Via.of (hw _ (List.mem_of_getElem? (i := 48) rfl))) e0 F1p (hb hby own_d7_2) (q := 5) rfl (fun T371 X372 e373 => ?_)
  refine own_iconst X372 hx (v := (1 : Int32)) (hb hby own_d7_5) (q := 6) rfl rfl ?_
  refine own_iadd X372 hx (hb hby own_d7_6) (q := 7) rfl ?_
  refine own_putF X372 hx hZ hown (host := "") (Or.inl (hw _ (List.mem_of_getElem? (i := 47) rfl))) (Via.of (hw _ (List.mem_of_getElem? (i := 48) rfl))) e373 F1p E0p (Or.inl (hw _ (List.mem_of_getElem? (i := 27) rfl))) (hw _ (List.mem_of_getElem? (i := 6) rfl)) (ty := .int) (by decide) rfl rfl (hb hby own_d7_7) (q := 10) rfl (fun T374 h377 X375 e376 W378 => ?_)
  have E379 := Exa.wr W378 E0p
  have F380 := Fld.same W378 F1p
  have F381 := Fld.other W378 F2p (Or.inr (slot_ne (C := "java/util/ArrayList") (Or.inl (hw _ (List.mem_of_getElem? (i := 30) rfl))) (Or.inl (hw _ (List.mem_of_getElem? (i := 27) rfl))) (by decide) (t := (.array (.object "java/lang/Object"))) (t' := .int) (by decide) (by decide)))
  have F382 := Fld.other W378 F3p (Or.inr (slot_ne (C := "java/util/ArrayList") (Or.inl (hw _ (List.mem_of_getElem? (i := 50) rfl))) (Or.inl (hw _ (List.mem_of_getElem? (i := 27) rfl))) (by decide) (t := .int) (t' := .int) (by decide) (by decide)))
  have S383 := Sta.wr W378 S4p
  have V384 := V5p.other W378 ne_dc_a1
  have L385 := L6p.wr W378
  have E386 := Exa.wr W378 E7p
  have K387 := K0.wr W378 (Or.inl (List.mem_of_getElem? (i := 0) rfl))
  have Z388 : n0 ≤ h377.size := W378.size ▸ Z0
  have N389 := Fr.snoc X375 N0 G_a1
  refine own_aloadN X375 hx (hb hby own_d7_10) (q := 11) rfl rfl rfl ?_
  refine own_aloadN X375 hx (hb hby own_d7_11) (q := 12) rfl rfl rfl ?_
  refine own_aloadN X375 hx (hb hby own_d7_12) (q := 13) rfl rfl rfl ?_
  refine own_getF X375 hx hZ hown (host := "") (Or.inl (hw _ (List.mem_of_getElem? (i := 29) rfl))) Via.refl e376 F381 (hb hby own_d7_13) (q := 16) rfl (fun T390 X391 e392 => ?_)
  refine own_aloadN X391 hx (hb hby own_d7_16) (q := 17) rfl rfl rfl ?_
  refine own_getF X391 hx hZ hown (host := "") (Or.inl (hw _ (List.mem_of_getElem? (i := 49) rfl))) Via.refl e392 F382 (hb hby own_d7_17) (q := 20) rfl (fun T393 X394 e395 => ?_)
  refine own_callQ X394 hx hZ hown (hw _ (List.mem_of_getElem? (i := 51) rfl)) (hw _ (List.mem_of_getElem? (i := 52) rfl)) (hw _ (List.mem_of_getElem? (i := 54) rfl)) (hw _ (List.mem_of_getElem? (i := 53) rfl)) (hw _ (List.mem_of_getElem? (i := 7) rfl)) (hw _ (List.mem_of_getElem? (i := 55) rfl)) E379 (by decide) (rm8_0 l Z a0 hw [] a1 a2 dc (mc + (1 : Int32)) h377 n0 Z388 E379 F380 F381 F382 S383 V384 L385 E386 G_a1 ne_dc_a1 ne_a2_a1 hmir) own_pd6 rfl e395 (by rw [hml]; rfl) (argsL := [.ref a2, .ref dc, .int (0 : Int32)]) (st := []) rfl (W := 0) (Nat.le_of_eq rfl) (by decide) (by decide) (by decide) (by decide) (hb hby own_d7_20) (q := 23) rfl (fun v399 T400 L401 X402 hQ403 => ?_)
  obtain ⟨a407, rfl, N404, K405, O408, A409, E410, F411, F412, F413, A414, L415, E416⟩ := hQ403
  have S417 := own_staKeep S383 K405 (allS (own_exaPlain E379) all0)
  have Z418 : n0 ≤ T400.heap.size := Nat.le_trans Z388 K405.1
  have K419 := K387.trans K405 (allS (Or.inl (List.mem_of_getElem? (i := 0) rfl)) all0)
  have N406 := Fr.app N389 N404
  have ne420 : a1 ≠ a407 := Nat.ne_of_lt (Nat.lt_of_lt_of_le E379.lt O408)
  have ne421 : dc ≠ a407 := Nat.ne_of_lt (Nat.lt_of_lt_of_le V384.lt O408)
  have ne422 : a2 ≠ a407 := Nat.ne_of_lt (Nat.lt_of_lt_of_le E386.lt O408)
  have Z423 : n0 ≤ a407 := Nat.le_trans Z388 O408
  have O424 : h0.size ≤ a407 := Nat.le_trans K387.1 O408
  show own_Go p e below (own_E s 1 10 (own_Q7_0 Z a1 a2 mc dc h0 n0)) (T400.setTop (mkF m 23 #[.val (.ref a1), .val (.ref a2)] []))
  refine own_iconst X402 hx (v := (1 : Int32)) (hb hby own_d7_23) (q := 24) rfl rfl ?_
  refine own_retN X402 hx hlk (t := .boolean) (by simp) Bd.returns (hb hby own_d7_24) ?_ (by decide) (by decide)
  show own_Q7_0 Z a1 a2 mc dc h0 n0 _ T400.heap _
  exact ⟨a407, rfl, N406, K419, O424, A409, E410, F411, F412, F413, A414, L415, E416⟩
theorem own_ef8_k10 (m : MethodId) (a1 : Addr) (a2 : Addr) (a3 : Addr) : entryFrame m #[.ref a1, .ref a2, .ref a3, .int (10 : Int32)] 4 = mkF m 0 #[.val (.ref a1), .val (.ref a2), .val (.ref a3), .val (.int (10 : Int32))] [] := by first | (simp [entryFrame, mkF, argsToLocals, Value.category]; done) | rfl

def own_Q8_10 (Z : State) (a1 : Addr) (a2 : Addr) (a3 : Addr) (mc : Int32) (v0 : Value) (v1 : Value) (v2 : Value) (v3 : Value) (v4 : Value) (v5 : Value) (v6 : Value) (v7 : Value) (v8 : Value) (v9 : Value) (h0 : Heap) (n0 : Nat) (v : Option Value) (h : Heap) (L : List Loc) : Prop := ∃ ra0 : Addr, v = none ∧ Fr n0 L ∧ Keep h0 h [a1] ∧ h0.size ≤ ra0 ∧ own_R Z h ra0 [v0, v1, v2, v3, v4, v5, v6, v7, v8, v9, .ref a2, .null, .null, .null, .null] ∧ Exa Z h a1 "java/util/ArrayList" ∧ Fld Z h a1 "java/util/AbstractList" "modCount" "I" (.int mc) ∧ Fld Z h a1 "java/util/ArrayList" "elementData" "[Ljava/lang/Object;" (.ref ra0) ∧ Fld Z h a1 "java/util/ArrayList" "size" "I" (.int (11 : Int32)) ∧ own_R Z h a3 [v0, v1, v2, v3, v4, v5, v6, v7, v8, v9] ∧ own_Ex Z h [v0, v1, v2, v3, v4, v5, v6, v7, v8, v9] ∧ Exa Z h a2 "java/lang/Integer"
set_option maxRecDepth 65536 in
set_option maxHeartbeats 40000000 in
theorem rm8_10 (l : Launch) (Z : State) (a0 : Array Value) (hw : ∀ d ∈ tables_1, d.before a0 Z = true) (ws : List Jvm.Cond) (a1 : Addr) (a2 : Addr) (a3 : Addr) (mc : Int32) (v0 : Value) (v1 : Value) (v2 : Value) (v3 : Value) (v4 : Value) (v5 : Value) (v6 : Value) (v7 : Value) (v8 : Value) (v9 : Value) (h0 : Heap) (n0 : Nat) (Z0 : n0 ≤ h0.size) (E0p : Exa Z h0 a1 "java/util/ArrayList") (F1p : Fld Z h0 a1 "java/util/AbstractList" "modCount" "I" (.int mc)) (F2p : Fld Z h0 a1 "java/util/ArrayList" "elementData" "[Ljava/lang/Object;" (.ref a3)) (F3p : Fld Z h0 a1 "java/util/ArrayList" "size" "I" (.int (10 : Int32))) (V4p : own_R Z h0 a3 [v0, v1, v2, v3, v4, v5, v6, v7, v8, v9]) (L5p : own_Ex Z h0 [v0, v1, v2, v3, v4, v5, v6, v7, v8, v9]) (E6p : Exa Z h0 a2 "java/lang/Integer") (G_a1 : n0 ≤ a1) (ne_a3_a1 : a3 ≠ a1) (ne_a2_a1 : a2 ≠ a1) (hmir : Jvm.ShelfD.MirrorMade Z "[Ljava/lang/Object;") :
    MetFree l (⟨"java/util/ArrayList", "add", "(Ljava/lang/Object;[Ljava/lang/Object;I)V"⟩ : MethodName) (head1 (Jvm.Cond.code (⟨"java/util/ArrayList", "add", "(Ljava/lang/Object;[Ljava/lang/Object;I)V"⟩ : MethodName) jdk_38_method_24_code 4 none :: ws) ({ frames := 6, cells := 1, slots := 15, locals := 105 } : Room)) (fun a U => a = #[.ref a1, .ref a2, .ref a3, .int (10 : Int32)] ∧ Z.Warmed39 U.vm ∧ U.heap = h0) (fun _ _ _ _ _ => True) (fun _ U o U' => ∃ v L, o = .returned v ∧ own_Q8_10 Z a1 a2 a3 mc v0 v1 v2 v3 v4 v5 v6 v7 v8 v9 h0 n0 v U'.heap L ∧ FrameEnd U o U' L ({ frames := 6, cells := 1, slots := 15, locals := 105 } : Room).cells ({ frames := 6, cells := 1, slots := 15, locals := 105 } : Room).slots) := by
  refine MetFree.of_bodySF (plainFor_of_name own_pn8) hisR ?_
  intro p e s m args below meth c s₁ Bd hml0 hP hK
  obtain ⟨rfl, hZ, hh⟩ := hP
  have hx := Bd.exec
  have hby := Bd.bytes
  have hml : c.maxLocals = 4 := hml0
  have hown : s.vm.findClass "java/util/ArrayList" = some m.cls := findClass_of_methodNamed Bd.named
  have hnm := (name_of_methodNamed Bd.named Bd.method).1
  have hlk : meth.locks = false := BodyLoose.notSynchronized Bd
  have X0 : Stand p l e ({ frames := 6, cells := 1, slots := 15, locals := 105 } : Room) s m #[.ref a1, .ref a2, .ref a3, .int (10 : Int32)] below meth c s₁ [] 0 0 := Stand.of_body Bd
  have e0 : s₁.heap = h0 := by rw [← hh, Bd.state]; rfl
  have N0 := Fr.nil n0
  have K0 := Keep.refl h0 [a1]
  show own_Go p e below (own_E s 1 15 (own_Q8_10 Z a1 a2 a3 mc v0 v1 v2 v3 v4 v5 v6 v7 v8 v9 h0 n0)) (s₁.setTop (entryFrame m #[.ref a1, .ref a2, .ref a3, .int (10 : Int32)] 4))
  rw [own_ef8_k10]
  refine own_iloadN X0 hx (hb hby own_d8_0) (q := 1) rfl rfl ?_
  refine own_aloadN X0 hx (hb hby own_d8_1) (q := 2) rfl rfl rfl ?_
  refine own_alen X0 hx hZ (n := (10 : Int32)) e0 V4p.arr rfl (hb hby own_d8_2) (q := 3) rfl ?_
  refine own_icmpM X0 hx (hb hby own_d8_3) (cd := .ne) (x := (10 : Int32)) (y := (10 : Int32)) (pt := 11) (q := 6) (by decide) (by decide) rfl rfl (fun h => False.elim (h ((by decide) : (10 : Int32) = (10 : Int32)))) (fun _ => ?_)
  refine own_aloadN X0 hx (hb hby own_d8_6) (q := 7) rfl rfl rfl ?_
  refine own_callQ X0 hx hZ hown (hw _ (List.mem_of_getElem? (i := 56) rfl)) (hw _ (List.mem_of_getElem? (i := 57) rfl)) (hw _ (List.mem_of_getElem? (i := 59) rfl)) (hw _ (List.mem_of_getElem? (i := 58) rfl)) (hw _ (List.mem_of_getElem? (i := 7) rfl)) (hw _ (List.mem_of_getElem? (i := 60) rfl)) E0p (by decide) (rm9_10 l Z a0 hw [] a1 mc a3 v0 v1 v2 v3 v4 v5 v6 v7 v8 v9 h0 n0 Z0 E0p F1p F2p F3p V4p L5p G_a1 ne_a3_a1 hmir) own_pd5 rfl e0 (by rw [hml]; rfl) (argsL := []) (st := []) rfl (W := 0) (Nat.le_of_eq rfl) (by decide) (by decide) (by decide) (by decide) (hb hby own_d8_7) (q := 10) rfl (fun v428 T429 L430 X431 hQ432 => ?_)
  obtain ⟨a436, rfl, N433, K434, O437, A438, E439, F440, F441, F442, A443, L444⟩ := hQ432
  have E445 := E6p.keep K434
  have Z446 : n0 ≤ T429.heap.size := Nat.le_trans Z0 K434.1
  have K447 := K0.trans K434 (allS (Or.inl (List.mem_of_getElem? (i := 0) rfl)) all0)
  have N435 := Fr.app N0 N433
  have ne448 : a1 ≠ a436 := Nat.ne_of_lt (Nat.lt_of_lt_of_le E0p.lt O437)
  have ne449 : a3 ≠ a436 := Nat.ne_of_lt (Nat.lt_of_lt_of_le V4p.lt O437)
  have ne450 : a2 ≠ a436 := Nat.ne_of_lt (Nat.lt_of_lt_of_le E6p.lt O437)
  have Z451 : n0 ≤ a436 := Nat.le_trans Z0 O437
  have O452 : h0.size ≤ a436 := Nat.le_trans K0.1 O437
  show own_Go p e below (own_E s 1 15 (own_Q8_10 Z a1 a2 a3 mc v0 v1 v2 v3 v4 v5 v6 v7 v8 v9 h0 n0)) (T429.setTop (mkF m 10 #[.val (.ref a1), .val (.ref a2), .val (.ref a3), .val (.int (10 : Int32))] [.ref a436]))
  refine own_astoreN (L' := #[.val (.ref a1), .val (.ref a2), .val (.ref a436), .val (.int (10 : Int32))]) X431 hx (hb hby own_d8_10) (q := 11) rfl rfl rfl ?_
  refine own_aloadN X431 hx (hb hby own_d8_11) (q := 12) rfl rfl rfl ?_
  refine own_iloadN X431 hx (hb hby own_d8_12) (q := 13) rfl rfl ?_
  refine own_aloadN X431 hx (hb hby own_d8_13) (q := 14) rfl rfl rfl ?_
  refine own_aastore X431 hx hZ (i := 10) rfl A438 (by decide) (by decide) (Nat.le_of_ble_eq_true rfl) (A438.sto (Ins.of_exa E445 (hw _ (List.mem_of_getElem? (i := 72) rfl)))) (hb hby own_d8_14) (q := 15) rfl (fun T453 h456 X454 e455 W457 A458 => ?_)
  replace A458 : own_R Z h456 a436 [v0, v1, v2, v3, v4, v5, v6, v7, v8, v9, .ref a2, .null, .null, .null, .null] := A458
  have E459 := Exa.wr W457 E439
  have F460 := Fld.other W457 F440 (Or.inl ne448)
  have F461 := Fld.other W457 F441 (Or.inl ne448)
  have F462 := Fld.other W457 F442 (Or.inl ne448)
  have A463 := A443.other W457 ne449
  have L464 := L444.wr W457
  have E465 := Exa.wr W457 E445
  have K466 := K447.wr W457 (Or.inr O452)
  have Z467 : n0 ≤ h456.size := W457.size ▸ Z446
  have N468 := Fr.snoc X454 N435 Z451
  refine own_aloadN X454 hx (hb hby own_d8_15) (q := 16) rfl rfl rfl ?_
  refine own_iloadN X454 hx (hb hby own_d8_16) (q := 17) rfl rfl ?_
  refine own_iconst X454 hx (v := (1 : Int32)) (hb hby own_d8_17) (q := 18) rfl rfl ?_
  refine own_iadd X454 hx (hb hby own_d8_18) (q := 19) rfl ?_
  rw [show ((10 : Int32) + (1 : Int32) : Int32) = (11 : Int32) from by decide]
  refine own_putF X454 hx hZ hown (host := "") (Or.inl (hw _ (List.mem_of_getElem? (i := 49) rfl))) Via.refl e455 F462 E459 (Or.inl (hw _ (List.mem_of_getElem? (i := 50) rfl))) (hw _ (List.mem_of_getElem? (i := 6) rfl)) (ty := .int) (by decide) rfl rfl (hb hby own_d8_19) (q := 22) rfl (fun T469 h472 X470 e471 W473 => ?_)
  have E474 := Exa.wr W473 E459
  have F475 := Fld.other W473 F460 (Or.inr (slot_ne (C := "java/util/ArrayList") (Or.inl (hw _ (List.mem_of_getElem? (i := 27) rfl))) (Or.inl (hw _ (List.mem_of_getElem? (i := 50) rfl))) (by decide) (t := .int) (t' := .int) (by decide) (by decide)))
  have F476 := Fld.other W473 F461 (Or.inr (slot_ne (C := "java/util/ArrayList") (Or.inl (hw _ (List.mem_of_getElem? (i := 30) rfl))) (Or.inl (hw _ (List.mem_of_getElem? (i := 50) rfl))) (by decide) (t := (.array (.object "java/lang/Object"))) (t' := .int) (by decide) (by decide)))
  have F477 := Fld.same W473 F462
  have A478 := A463.other W473 ne_a3_a1
  have L479 := L464.wr W473
  have E480 := Exa.wr W473 E465
  have A481 := A458.other W473 (Ne.symm ne448)
  have K482 := K466.wr W473 (Or.inl (List.mem_of_getElem? (i := 0) rfl))
  have Z483 : n0 ≤ h472.size := W473.size ▸ Z467
  have N484 := Fr.snoc X470 N468 G_a1
  refine own_retV X470 hx hlk (rest := []) Bd.returns (hb hby own_d8_22) ?_ (by decide) (by decide)
  show own_Q8_10 Z a1 a2 a3 mc v0 v1 v2 v3 v4 v5 v6 v7 v8 v9 h0 n0 _ T469.heap _
  rw [e471]
  exact ⟨a436, rfl, N484, K482, O452, A481, E474, F475, F476, F477, A478, L479, E480⟩

def own_Q7_10 (Z : State) (a1 : Addr) (a2 : Addr) (mc : Int32) (ea : Addr) (v0 : Value) (v1 : Value) (v2 : Value) (v3 : Value) (v4 : Value) (v5 : Value) (v6 : Value) (v7 : Value) (v8 : Value) (v9 : Value) (h0 : Heap) (n0 : Nat) (v : Option Value) (h : Heap) (L : List Loc) : Prop := ∃ ra0 : Addr, v = some (.int (1 : Int32)) ∧ Fr n0 L ∧ Keep h0 h [a1] ∧ h0.size ≤ ra0 ∧ own_R Z h ra0 [v0, v1, v2, v3, v4, v5, v6, v7, v8, v9, .ref a2, .null, .null, .null, .null] ∧ Exa Z h a1 "java/util/ArrayList" ∧ Fld Z h a1 "java/util/AbstractList" "modCount" "I" (.int (mc + (1 : Int32))) ∧ Fld Z h a1 "java/util/ArrayList" "elementData" "[Ljava/lang/Object;" (.ref ra0) ∧ Fld Z h a1 "java/util/ArrayList" "size" "I" (.int (11 : Int32)) ∧ own_R Z h ea [v0, v1, v2, v3, v4, v5, v6, v7, v8, v9] ∧ own_Ex Z h [v0, v1, v2, v3, v4, v5, v6, v7, v8, v9] ∧ Exa Z h a2 "java/lang/Integer"
set_option maxRecDepth 65536 in
set_option maxHeartbeats 40000000 in
theorem rm7_10 (l : Launch) (Z : State) (a0 : Array Value) (hw : ∀ d ∈ tables_1, d.before a0 Z = true) (ws : List Jvm.Cond) (a1 : Addr) (a2 : Addr) (mc : Int32) (ea : Addr) (v0 : Value) (v1 : Value) (v2 : Value) (v3 : Value) (v4 : Value) (v5 : Value) (v6 : Value) (v7 : Value) (v8 : Value) (v9 : Value) (h0 : Heap) (n0 : Nat) (Z0 : n0 ≤ h0.size) (E0p : Exa Z h0 a1 "java/util/ArrayList") (F1p : Fld Z h0 a1 "java/util/AbstractList" "modCount" "I" (.int mc)) (F2p : Fld Z h0 a1 "java/util/ArrayList" "elementData" "[Ljava/lang/Object;" (.ref ea)) (F3p : Fld Z h0 a1 "java/util/ArrayList" "size" "I" (.int (10 : Int32))) (V4p : own_R Z h0 ea [v0, v1, v2, v3, v4, v5, v6, v7, v8, v9]) (L5p : own_Ex Z h0 [v0, v1, v2, v3, v4, v5, v6, v7, v8, v9]) (E6p : Exa Z h0 a2 "java/lang/Integer") (G_a1 : n0 ≤ a1) (ne_ea_a1 : ea ≠ a1) (ne_a2_a1 : a2 ≠ a1) (hmir : Jvm.ShelfD.MirrorMade Z "[Ljava/lang/Object;") :
    MetFree l (⟨"java/util/ArrayList", "add", "(Ljava/lang/Object;)Z"⟩ : MethodName) (head1 (Jvm.Cond.code (⟨"java/util/ArrayList", "add", "(Ljava/lang/Object;)Z"⟩ : MethodName) jdk_38_method_25_code 2 (some .boolean) :: ws) ({ frames := 7, cells := 1, slots := 15, locals := 120 } : Room)) (fun a U => a = #[.ref a1, .ref a2] ∧ Z.Warmed39 U.vm ∧ U.heap = h0) (fun _ _ _ _ _ => True) (fun _ U o U' => ∃ v L, o = .returned v ∧ own_Q7_10 Z a1 a2 mc ea v0 v1 v2 v3 v4 v5 v6 v7 v8 v9 h0 n0 v U'.heap L ∧ FrameEnd U o U' L ({ frames := 7, cells := 1, slots := 15, locals := 120 } : Room).cells ({ frames := 7, cells := 1, slots := 15, locals := 120 } : Room).slots) := by
  refine MetFree.of_bodySF (plainFor_of_name own_pn8) hisR ?_
  intro p e s m args below meth c s₁ Bd hml0 hP hK
  obtain ⟨rfl, hZ, hh⟩ := hP
  have hx := Bd.exec
  have hby := Bd.bytes
  have hml : c.maxLocals = 2 := hml0
  have hown : s.vm.findClass "java/util/ArrayList" = some m.cls := findClass_of_methodNamed Bd.named
  have hnm := (name_of_methodNamed Bd.named Bd.method).1
  have hlk : meth.locks = false := BodyLoose.notSynchronized Bd
  have X0 : Stand p l e ({ frames := 7, cells := 1, slots := 15, locals := 120 } : Room) s m #[.ref a1, .ref a2] below meth c s₁ [] 0 0 := Stand.of_body Bd
  have e0 : s₁.heap = h0 := by rw [← hh, Bd.state]; rfl
  have N0 := Fr.nil n0
  have K0 := Keep.refl h0 [a1]
  show own_Go p e below (own_E s 1 15 (own_Q7_10 Z a1 a2 mc ea v0 v1 v2 v3 v4 v5 v6 v7 v8 v9 h0 n0)) (s₁.setTop (entryFrame m #[.ref a1, .ref a2] 2))
  rw [own_ef7]
  refine own_aloadN X0 hx (hb hby own_d7_0) (q := 1) rfl rfl rfl ?_
  refine own_dup X0 hx (hb hby own_d7_1) (q := 2) rfl rfl ?_
  refine own_getF X0 hx hZ hown (host := "") (Or.inl (hw _ (List.mem_of_getElem? (i := 47) rfl))) (Via.of (hw _ (List.mem_of_getElem? (i := 48) rfl))) e0 F1p (hb hby own_d7_2) (q := 5) rfl (fun T485 X486 e487 => ?_)
  refine own_iconst X486 hx (v := (1 : Int32)) (hb hby own_d7_5) (q := 6) rfl rfl ?_
  refine own_iadd X486 hx (hb hby own_d7_6) (q := 7) rfl ?_
  refine own_putF X486 hx hZ hown (host := "") (Or.inl (hw _ (List.mem_of_getElem? (i := 47) rfl))) (Via.of (hw _ (List.mem_of_getElem? (i := 48) rfl))) e487 F1p E0p (Or.inl (hw _ (List.mem_of_getElem? (i := 27) rfl))) (hw _ (List.mem_of_getElem? (i := 6) rfl)) (ty := .int) (by decide) rfl rfl (hb hby own_d7_7) (q := 10) rfl (fun T488 h491 X489 e490 W492 => ?_)
  have E493 := Exa.wr W492 E0p
  have F494 := Fld.same W492 F1p
  have F495 := Fld.other W492 F2p (Or.inr (slot_ne (C := "java/util/ArrayList") (Or.inl (hw _ (List.mem_of_getElem? (i := 30) rfl))) (Or.inl (hw _ (List.mem_of_getElem? (i := 27) rfl))) (by decide) (t := (.array (.object "java/lang/Object"))) (t' := .int) (by decide) (by decide)))
  have F496 := Fld.other W492 F3p (Or.inr (slot_ne (C := "java/util/ArrayList") (Or.inl (hw _ (List.mem_of_getElem? (i := 50) rfl))) (Or.inl (hw _ (List.mem_of_getElem? (i := 27) rfl))) (by decide) (t := .int) (t' := .int) (by decide) (by decide)))
  have V497 := V4p.other W492 ne_ea_a1
  have L498 := L5p.wr W492
  have E499 := Exa.wr W492 E6p
  have K500 := K0.wr W492 (Or.inl (List.mem_of_getElem? (i := 0) rfl))
  have Z501 : n0 ≤ h491.size := W492.size ▸ Z0
  have N502 := Fr.snoc X489 N0 G_a1
  refine own_aloadN X489 hx (hb hby own_d7_10) (q := 11) rfl rfl rfl ?_
  refine own_aloadN X489 hx (hb hby own_d7_11) (q := 12) rfl rfl rfl ?_
  refine own_aloadN X489 hx (hb hby own_d7_12) (q := 13) rfl rfl rfl ?_
  refine own_getF X489 hx hZ hown (host := "") (Or.inl (hw _ (List.mem_of_getElem? (i := 29) rfl))) Via.refl e490 F495 (hb hby own_d7_13) (q := 16) rfl (fun T503 X504 e505 => ?_)
  refine own_aloadN X504 hx (hb hby own_d7_16) (q := 17) rfl rfl rfl ?_
  refine own_getF X504 hx hZ hown (host := "") (Or.inl (hw _ (List.mem_of_getElem? (i := 49) rfl))) Via.refl e505 F496 (hb hby own_d7_17) (q := 20) rfl (fun T506 X507 e508 => ?_)
  refine own_callQ X507 hx hZ hown (hw _ (List.mem_of_getElem? (i := 51) rfl)) (hw _ (List.mem_of_getElem? (i := 52) rfl)) (hw _ (List.mem_of_getElem? (i := 54) rfl)) (hw _ (List.mem_of_getElem? (i := 53) rfl)) (hw _ (List.mem_of_getElem? (i := 7) rfl)) (hw _ (List.mem_of_getElem? (i := 55) rfl)) E493 (by decide) (rm8_10 l Z a0 hw [] a1 a2 ea (mc + (1 : Int32)) v0 v1 v2 v3 v4 v5 v6 v7 v8 v9 h491 n0 Z501 E493 F494 F495 F496 V497 L498 E499 G_a1 ne_ea_a1 ne_a2_a1 hmir) own_pd6 rfl e508 (by rw [hml]; rfl) (argsL := [.ref a2, .ref ea, .int (10 : Int32)]) (st := []) rfl (W := 0) (Nat.le_of_eq rfl) (by decide) (by decide) (by decide) (by decide) (hb hby own_d7_20) (q := 23) rfl (fun v512 T513 L514 X515 hQ516 => ?_)
  obtain ⟨a520, rfl, N517, K518, O521, A522, E523, F524, F525, F526, A527, L528, E529⟩ := hQ516
  have Z530 : n0 ≤ T513.heap.size := Nat.le_trans Z501 K518.1
  have K531 := K500.trans K518 (allS (Or.inl (List.mem_of_getElem? (i := 0) rfl)) all0)
  have N519 := Fr.app N502 N517
  have ne532 : a1 ≠ a520 := Nat.ne_of_lt (Nat.lt_of_lt_of_le E493.lt O521)
  have ne533 : ea ≠ a520 := Nat.ne_of_lt (Nat.lt_of_lt_of_le V497.lt O521)
  have ne534 : a2 ≠ a520 := Nat.ne_of_lt (Nat.lt_of_lt_of_le E499.lt O521)
  have Z535 : n0 ≤ a520 := Nat.le_trans Z501 O521
  have O536 : h0.size ≤ a520 := Nat.le_trans K500.1 O521
  show own_Go p e below (own_E s 1 15 (own_Q7_10 Z a1 a2 mc ea v0 v1 v2 v3 v4 v5 v6 v7 v8 v9 h0 n0)) (T513.setTop (mkF m 23 #[.val (.ref a1), .val (.ref a2)] []))
  refine own_iconst X515 hx (v := (1 : Int32)) (hb hby own_d7_23) (q := 24) rfl rfl ?_
  refine own_retN X515 hx hlk (t := .boolean) (by simp) Bd.returns (hb hby own_d7_24) ?_ (by decide) (by decide)
  show own_Q7_10 Z a1 a2 mc ea v0 v1 v2 v3 v4 v5 v6 v7 v8 v9 h0 n0 _ T513.heap _
  exact ⟨a520, rfl, N519, K531, O536, A522, E523, F524, F525, F526, A527, L528, E529⟩
theorem own_ef8_k15 (m : MethodId) (a1 : Addr) (a2 : Addr) (a3 : Addr) : entryFrame m #[.ref a1, .ref a2, .ref a3, .int (15 : Int32)] 4 = mkF m 0 #[.val (.ref a1), .val (.ref a2), .val (.ref a3), .val (.int (15 : Int32))] [] := by first | (simp [entryFrame, mkF, argsToLocals, Value.category]; done) | rfl

def own_Q8_15 (Z : State) (a1 : Addr) (a2 : Addr) (a3 : Addr) (mc : Int32) (v0 : Value) (v1 : Value) (v2 : Value) (v3 : Value) (v4 : Value) (v5 : Value) (v6 : Value) (v7 : Value) (v8 : Value) (v9 : Value) (v10 : Value) (v11 : Value) (v12 : Value) (v13 : Value) (v14 : Value) (h0 : Heap) (n0 : Nat) (v : Option Value) (h : Heap) (L : List Loc) : Prop := ∃ ra0 : Addr, v = none ∧ Fr n0 L ∧ Keep h0 h [a1] ∧ h0.size ≤ ra0 ∧ own_R Z h ra0 [v0, v1, v2, v3, v4, v5, v6, v7, v8, v9, v10, v11, v12, v13, v14, .ref a2, .null, .null, .null, .null, .null, .null] ∧ Exa Z h a1 "java/util/ArrayList" ∧ Fld Z h a1 "java/util/AbstractList" "modCount" "I" (.int mc) ∧ Fld Z h a1 "java/util/ArrayList" "elementData" "[Ljava/lang/Object;" (.ref ra0) ∧ Fld Z h a1 "java/util/ArrayList" "size" "I" (.int (16 : Int32)) ∧ own_R Z h a3 [v0, v1, v2, v3, v4, v5, v6, v7, v8, v9, v10, v11, v12, v13, v14] ∧ own_Ex Z h [v0, v1, v2, v3, v4, v5, v6, v7, v8, v9, v10, v11, v12, v13, v14] ∧ Exa Z h a2 "java/lang/Integer"
set_option maxRecDepth 65536 in
set_option maxHeartbeats 40000000 in
theorem rm8_15 (l : Launch) (Z : State) (a0 : Array Value) (hw : ∀ d ∈ tables_1, d.before a0 Z = true) (ws : List Jvm.Cond) (a1 : Addr) (a2 : Addr) (a3 : Addr) (mc : Int32) (v0 : Value) (v1 : Value) (v2 : Value) (v3 : Value) (v4 : Value) (v5 : Value) (v6 : Value) (v7 : Value) (v8 : Value) (v9 : Value) (v10 : Value) (v11 : Value) (v12 : Value) (v13 : Value) (v14 : Value) (h0 : Heap) (n0 : Nat) (Z0 : n0 ≤ h0.size) (E0p : Exa Z h0 a1 "java/util/ArrayList") (F1p : Fld Z h0 a1 "java/util/AbstractList" "modCount" "I" (.int mc)) (F2p : Fld Z h0 a1 "java/util/ArrayList" "elementData" "[Ljava/lang/Object;" (.ref a3)) (F3p : Fld Z h0 a1 "java/util/ArrayList" "size" "I" (.int (15 : Int32))) (V4p : own_R Z h0 a3 [v0, v1, v2, v3, v4, v5, v6, v7, v8, v9, v10, v11, v12, v13, v14]) (L5p : own_Ex Z h0 [v0, v1, v2, v3, v4, v5, v6, v7, v8, v9, v10, v11, v12, v13, v14]) (E6p : Exa Z h0 a2 "java/lang/Integer") (G_a1 : n0 ≤ a1) (ne_a3_a1 : a3 ≠ a1) (ne_a2_a1 : a2 ≠ a1) (hmir : Jvm.ShelfD.MirrorMade Z "[Ljava/lang/Object;") :
    MetFree l (⟨"java/util/ArrayList", "add", "(Ljava/lang/Object;[Ljava/lang/Object;I)V"⟩ : MethodName) (head1 (Jvm.Cond.code (⟨"java/util/ArrayList", "add", "(Ljava/lang/Object;[Ljava/lang/Object;I)V"⟩ : MethodName) jdk_38_method_24_code 4 none :: ws) ({ frames := 6, cells := 1, slots := 22, locals := 105 } : Room)) (fun a U => a = #[.ref a1, .ref a2, .ref a3, .int (15 : Int32)] ∧ Z.Warmed39 U.vm ∧ U.heap = h0) (fun _ _ _ _ _ => True) (fun _ U o U' => ∃ v L, o = .returned v ∧ own_Q8_15 Z a1 a2 a3 mc v0 v1 v2 v3 v4 v5 v6 v7 v8 v9 v10 v11 v12 v13 v14 h0 n0 v U'.heap L ∧ FrameEnd U o U' L ({ frames := 6, cells := 1, slots := 22, locals := 105 } : Room).cells ({ frames := 6, cells := 1, slots := 22, locals := 105 } : Room).slots) := by
  refine MetFree.of_bodySF (plainFor_of_name own_pn8) hisR ?_
  intro p e s m args below meth c s₁ Bd hml0 hP hK
  obtain ⟨rfl, hZ, hh⟩ := hP
  have hx := Bd.exec
  have hby := Bd.bytes
  have hml : c.maxLocals = 4 := hml0
  have hown : s.vm.findClass "java/util/ArrayList" = some m.cls := findClass_of_methodNamed Bd.named
  have hnm := (name_of_methodNamed Bd.named Bd.method).1
  have hlk : meth.locks = false := BodyLoose.notSynchronized Bd
  have X0 : Stand p l e ({ frames := 6, cells := 1, slots := 22, locals := 105 } : Room) s m #[.ref a1, .ref a2, .ref a3, .int (15 : Int32)] below meth c s₁ [] 0 0 := Stand.of_body Bd
  have e0 : s₁.heap = h0 := by rw [← hh, Bd.state]; rfl
  have N0 := Fr.nil n0
  have K0 := Keep.refl h0 [a1]
  show own_Go p e below (own_E s 1 22 (own_Q8_15 Z a1 a2 a3 mc v0 v1 v2 v3 v4 v5 v6 v7 v8 v9 v10 v11 v12 v13 v14 h0 n0)) (s₁.setTop (entryFrame m #[.ref a1, .ref a2, .ref a3, .int (15 : Int32)] 4))
  rw [own_ef8_k15]
  refine own_iloadN X0 hx (hb hby own_d8_0) (q := 1) rfl rfl ?_
  refine own_aloadN X0 hx (hb hby own_d8_1) (q := 2) rfl rfl rfl ?_
  refine own_alen X0 hx hZ (n := (15 : Int32)) e0 V4p.arr rfl (hb hby own_d8_2) (q := 3) rfl ?_
  refine own_icmpM X0 hx (hb hby own_d8_3) (cd := .ne) (x := (15 : Int32)) (y := (15 : Int32)) (pt := 11) (q := 6) (by decide) (by decide) rfl rfl (fun h => False.elim (h ((by decide) : (15 : Int32) = (15 : Int32)))) (fun _ => ?_)
  refine own_aloadN X0 hx (hb hby own_d8_6) (q := 7) rfl rfl rfl ?_
  refine own_callQ X0 hx hZ hown (hw _ (List.mem_of_getElem? (i := 56) rfl)) (hw _ (List.mem_of_getElem? (i := 57) rfl)) (hw _ (List.mem_of_getElem? (i := 59) rfl)) (hw _ (List.mem_of_getElem? (i := 58) rfl)) (hw _ (List.mem_of_getElem? (i := 7) rfl)) (hw _ (List.mem_of_getElem? (i := 60) rfl)) E0p (by decide) (rm9_15 l Z a0 hw [] a1 mc a3 v0 v1 v2 v3 v4 v5 v6 v7 v8 v9 v10 v11 v12 v13 v14 h0 n0 Z0 E0p F1p F2p F3p V4p L5p G_a1 ne_a3_a1 hmir) own_pd5 rfl e0 (by rw [hml]; rfl) (argsL := []) (st := []) rfl (W := 0) (Nat.le_of_eq rfl) (by decide) (by decide) (by decide) (by decide) (hb hby own_d8_7) (q := 10) rfl (fun v540 T541 L542 X543 hQ544 => ?_)
  obtain ⟨a548, rfl, N545, K546, O549, A550, E551, F552, F553, F554, A555, L556⟩ := hQ544
  have E557 := E6p.keep K546
  have Z558 : n0 ≤ T541.heap.size := Nat.le_trans Z0 K546.1
  have K559 := K0.trans K546 (allS (Or.inl (List.mem_of_getElem? (i := 0) rfl)) all0)
  have N547 := Fr.app N0 N545
  have ne560 : a1 ≠ a548 := Nat.ne_of_lt (Nat.lt_of_lt_of_le E0p.lt O549)
  have ne561 : a3 ≠ a548 := Nat.ne_of_lt (Nat.lt_of_lt_of_le V4p.lt O549)
  have ne562 : a2 ≠ a548 := Nat.ne_of_lt (Nat.lt_of_lt_of_le E6p.lt O549)
  have Z563 : n0 ≤ a548 := Nat.le_trans Z0 O549
  have O564 : h0.size ≤ a548 := Nat.le_trans K0.1 O549
  show own_Go p e below (own_E s 1 22 (own_Q8_15 Z a1 a2 a3 mc v0 v1 v2 v3 v4 v5 v6 v7 v8 v9 v10 v11 v12 v13 v14 h0 n0)) (T541.setTop (mkF m 10 #[.val (.ref a1), .val (.ref a2), .val (.ref a3), .val (.int (15 : Int32))] [.ref a548]))
  refine own_astoreN (L' := #[.val (.ref a1), .val (.ref a2), .val (.ref a548), .val (.int (15 : Int32))]) X543 hx (hb hby own_d8_10) (q := 11) rfl rfl rfl ?_
  refine own_aloadN X543 hx (hb hby own_d8_11) (q := 12) rfl rfl rfl ?_
  refine own_iloadN X543 hx (hb hby own_d8_12) (q := 13) rfl rfl ?_
  refine own_aloadN X543 hx (hb hby own_d8_13) (q := 14) rfl rfl rfl ?_
  refine own_aastore X543 hx hZ (i := 15) rfl A550 (by decide) (by decide) (Nat.le_of_ble_eq_true rfl) (A550.sto (Ins.of_exa E557 (hw _ (List.mem_of_getElem? (i := 72) rfl)))) (hb hby own_d8_14) (q := 15) rfl (fun T565 h568 X566 e567 W569 A570 => ?_)
  replace A570 : own_R Z h568 a548 [v0, v1, v2, v3, v4, v5, v6, v7, v8, v9, v10, v11, v12, v13, v14, .ref a2, .null, .null, .null, .null, .null, .null] := A570
  have E571 := Exa.wr W569 E551
  have F572 := Fld.other W569 F552 (Or.inl ne560)
  have F573 := Fld.other W569 F553 (Or.inl ne560)
  have F574 := Fld.other W569 F554 (Or.inl ne560)
  have A575 := A555.other W569 ne561
  have L576 := L556.wr W569
  have E577 := Exa.wr W569 E557
  have K578 := K559.wr W569 (Or.inr O564)
  have Z579 : n0 ≤ h568.size := W569.size ▸ Z558
  have N580 := Fr.snoc X566 N547 Z563
  refine own_aloadN X566 hx (hb hby own_d8_15) (q := 16) rfl rfl rfl ?_
  refine own_iloadN X566 hx (hb hby own_d8_16) (q := 17) rfl rfl ?_
  refine own_iconst X566 hx (v := (1 : Int32)) (hb hby own_d8_17) (q := 18) rfl rfl ?_
  refine own_iadd X566 hx (hb hby own_d8_18) (q := 19) rfl ?_
  rw [show ((15 : Int32) + (1 : Int32) : Int32) = (16 : Int32) from by decide]
  refine own_putF X566 hx hZ hown (host := "") (Or.inl (hw _ (List.mem_of_getElem? (i := 49) rfl))) Via.refl e567 F574 E571 (Or.inl (hw _ (List.mem_of_getElem? (i := 50) rfl))) (hw _ (List.mem_of_getElem? (i := 6) rfl)) (ty := .int) (by decide) rfl rfl (hb hby own_d8_19) (q := 22) rfl (fun T581 h584 X582 e583 W585 => ?_)
  have E586 := Exa.wr W585 E571
  have F587 := Fld.other W585 F572 (Or.inr (slot_ne (C := "java/util/ArrayList") (Or.inl (hw _ (List.mem_of_getElem? (i := 27) rfl))) (Or.inl (hw _ (List.mem_of_getElem? (i := 50) rfl))) (by decide) (t := .int) (t' := .int) (by decide) (by decide)))
  have F588 := Fld.other W585 F573 (Or.inr (slot_ne (C := "java/util/ArrayList") (Or.inl (hw _ (List.mem_of_getElem? (i := 30) rfl))) (Or.inl (hw _ (List.mem_of_getElem? (i := 50) rfl))) (by decide) (t := (.array (.object "java/lang/Object"))) (t' := .int) (by decide) (by decide)))
  have F589 := Fld.same W585 F574
  have A590 := A575.other W585 ne_a3_a1
  have L591 := L576.wr W585
  have E592 := Exa.wr W585 E577
  have A593 := A570.other W585 (Ne.symm ne560)
  have K594 := K578.wr W585 (Or.inl (List.mem_of_getElem? (i := 0) rfl))
  have Z595 : n0 ≤ h584.size := W585.size ▸ Z579
  have N596 := Fr.snoc X582 N580 G_a1
  refine own_retV X582 hx hlk (rest := []) Bd.returns (hb hby own_d8_22) ?_ (by decide) (by decide)
  show own_Q8_15 Z a1 a2 a3 mc v0 v1 v2 v3 v4 v5 v6 v7 v8 v9 v10 v11 v12 v13 v14 h0 n0 _ T581.heap _
  rw [e583]
  exact ⟨a548, rfl, N596, K594, O564, A593, E586, F587, F588, F589, A590, L591, E592⟩

def own_Q7_15 (Z : State) (a1 : Addr) (a2 : Addr) (mc : Int32) (ea : Addr) (v0 : Value) (v1 : Value) (v2 : Value) (v3 : Value) (v4 : Value) (v5 : Value) (v6 : Value) (v7 : Value) (v8 : Value) (v9 : Value) (v10 : Value) (v11 : Value) (v12 : Value) (v13 : Value) (v14 : Value) (h0 : Heap) (n0 : Nat) (v : Option Value) (h : Heap) (L : List Loc) : Prop := ∃ ra0 : Addr, v = some (.int (1 : Int32)) ∧ Fr n0 L ∧ Keep h0 h [a1] ∧ h0.size ≤ ra0 ∧ own_R Z h ra0 [v0, v1, v2, v3, v4, v5, v6, v7, v8, v9, v10, v11, v12, v13, v14, .ref a2, .null, .null, .null, .null, .null, .null] ∧ Exa Z h a1 "java/util/ArrayList" ∧ Fld Z h a1 "java/util/AbstractList" "modCount" "I" (.int (mc + (1 : Int32))) ∧ Fld Z h a1 "java/util/ArrayList" "elementData" "[Ljava/lang/Object;" (.ref ra0) ∧ Fld Z h a1 "java/util/ArrayList" "size" "I" (.int (16 : Int32)) ∧ own_R Z h ea [v0, v1, v2, v3, v4, v5, v6, v7, v8, v9, v10, v11, v12, v13, v14] ∧ own_Ex Z h [v0, v1, v2, v3, v4, v5, v6, v7, v8, v9, v10, v11, v12, v13, v14] ∧ Exa Z h a2 "java/lang/Integer"
set_option maxRecDepth 65536 in
set_option maxHeartbeats 40000000 in
theorem rm7_15 (l : Launch) (Z : State) (a0 : Array Value) (hw : ∀ d ∈ tables_1, d.before a0 Z = true) (ws : List Jvm.Cond) (a1 : Addr) (a2 : Addr) (mc : Int32) (ea : Addr) (v0 : Value) (v1 : Value) (v2 : Value) (v3 : Value) (v4 : Value) (v5 : Value) (v6 : Value) (v7 : Value) (v8 : Value) (v9 : Value) (v10 : Value) (v11 : Value) (v12 : Value) (v13 : Value) (v14 : Value) (h0 : Heap) (n0 : Nat) (Z0 : n0 ≤ h0.size) (E0p : Exa Z h0 a1 "java/util/ArrayList") (F1p : Fld Z h0 a1 "java/util/AbstractList" "modCount" "I" (.int mc)) (F2p : Fld Z h0 a1 "java/util/ArrayList" "elementData" "[Ljava/lang/Object;" (.ref ea)) (F3p : Fld Z h0 a1 "java/util/ArrayList" "size" "I" (.int (15 : Int32))) (V4p : own_R Z h0 ea [v0, v1, v2, v3, v4, v5, v6, v7, v8, v9, v10, v11, v12, v13, v14]) (L5p : own_Ex Z h0 [v0, v1, v2, v3, v4, v5, v6, v7, v8, v9, v10, v11, v12, v13, v14]) (E6p : Exa Z h0 a2 "java/lang/Integer") (G_a1 : n0 ≤ a1) (ne_ea_a1 : ea ≠ a1) (ne_a2_a1 : a2 ≠ a1) (hmir : Jvm.ShelfD.MirrorMade Z "[Ljava/lang/Object;") :
    MetFree l (⟨"java/util/ArrayList", "add", "(Ljava/lang/Object;)Z"⟩ : MethodName) (head1 (Jvm.Cond.code (⟨"java/util/ArrayList", "add", "(Ljava/lang/Object;)Z"⟩ : MethodName) jdk_38_method_25_code 2 (some .boolean) :: ws) ({ frames := 7, cells := 1, slots := 22, locals := 120 } : Room)) (fun a U => a = #[.ref a1, .ref a2] ∧ Z.Warmed39 U.vm ∧ U.heap = h0) (fun _ _ _ _ _ => True) (fun _ U o U' => ∃ v L, o = .returned v ∧ own_Q7_15 Z a1 a2 mc ea v0 v1 v2 v3 v4 v5 v6 v7 v8 v9 v10 v11 v12 v13 v14 h0 n0 v U'.heap L ∧ FrameEnd U o U' L ({ frames := 7, cells := 1, slots := 22, locals := 120 } : Room).cells ({ frames := 7, cells := 1, slots := 22, locals := 120 } : Room).slots) := by
  refine MetFree.of_bodySF (plainFor_of_name own_pn8) hisR ?_
  intro p e s m args below meth c s₁ Bd hml0 hP hK
  obtain ⟨rfl, hZ, hh⟩ := hP
  have hx := Bd.exec
  have hby := Bd.bytes
  have hml : c.maxLocals = 2 := hml0
  have hown : s.vm.findClass "java/util/ArrayList" = some m.cls := findClass_of_methodNamed Bd.named
  have hnm := (name_of_methodNamed Bd.named Bd.method).1
  have hlk : meth.locks = false := BodyLoose.notSynchronized Bd
  have X0 : Stand p l e ({ frames := 7, cells := 1, slots := 22, locals := 120 } : Room) s m #[.ref a1, .ref a2] below meth c s₁ [] 0 0 := Stand.of_body Bd
  have e0 : s₁.heap = h0 := by rw [← hh, Bd.state]; rfl
  have N0 := Fr.nil n0
  have K0 := Keep.refl h0 [a1]
  show own_Go p e below (own_E s 1 22 (own_Q7_15 Z a1 a2 mc ea v0 v1 v2 v3 v4 v5 v6 v7 v8 v9 v10 v11 v12 v13 v14 h0 n0)) (s₁.setTop (entryFrame m #[.ref a1, .ref a2] 2))
  rw [own_ef7]
  refine own_aloadN X0 hx (hb hby own_d7_0) (q := 1) rfl rfl rfl ?_
  refine own_dup X0 hx (hb hby own_d7_1) (q := 2) rfl rfl ?_
  refine own_getF X0 hx hZ hown (host := "") (Or.inl (hw _ (List.mem_of_getElem? (i := 47) rfl))) (Via.of (hw _ (List.mem_of_getElem? (i := 48) rfl))) e0 F1p (hb hby own_d7_2) (q := 5) rfl (fun T597 X598 e599 => ?_)
  refine own_iconst X598 hx (v := (1 : Int32)) (hb hby own_d7_5) (q := 6) rfl rfl ?_
  refine own_iadd X598 hx (hb hby own_d7_6) (q := 7) rfl ?_
  refine own_putF X598 hx hZ hown (host := "") (Or.inl (hw _ (List.mem_of_getElem? (i := 47) rfl))) (Via.of (hw _ (List.mem_of_getElem? (i := 48) rfl))) e599 F1p E0p (Or.inl (hw _ (List.mem_of_getElem? (i := 27) rfl))) (hw _ (List.mem_of_getElem? (i := 6) rfl)) (ty := .int) (by decide) rfl rfl (hb hby own_d7_7) (q := 10) rfl (fun T600 h603 X601 e602 W604 => ?_)
  have E605 := Exa.wr W604 E0p
  have F606 := Fld.same W604 F1p
  have F607 := Fld.other W604 F2p (Or.inr (slot_ne (C := "java/util/ArrayList") (Or.inl (hw _ (List.mem_of_getElem? (i := 30) rfl))) (Or.inl (hw _ (List.mem_of_getElem? (i := 27) rfl))) (by decide) (t := (.array (.object "java/lang/Object"))) (t' := .int) (by decide) (by decide)))
  have F608 := Fld.other W604 F3p (Or.inr (slot_ne (C := "java/util/ArrayList") (Or.inl (hw _ (List.mem_of_getElem? (i := 50) rfl))) (Or.inl (hw _ (List.mem_of_getElem? (i := 27) rfl))) (by decide) (t := .int) (t' := .int) (by decide) (by decide)))
  have V609 := V4p.other W604 ne_ea_a1
  have L610 := L5p.wr W604
  have E611 := Exa.wr W604 E6p
  have K612 := K0.wr W604 (Or.inl (List.mem_of_getElem? (i := 0) rfl))
  have Z613 : n0 ≤ h603.size := W604.size ▸ Z0
  have N614 := Fr.snoc X601 N0 G_a1
  refine own_aloadN X601 hx (hb hby own_d7_10) (q := 11) rfl rfl rfl ?_
  refine own_aloadN X601 hx (hb hby own_d7_11) (q := 12) rfl rfl rfl ?_
  refine own_aloadN X601 hx (hb hby own_d7_12) (q := 13) rfl rfl rfl ?_
  refine own_getF X601 hx hZ hown (host := "") (Or.inl (hw _ (List.mem_of_getElem? (i := 29) rfl))) Via.refl e602 F607 (hb hby own_d7_13) (q := 16) rfl (fun T615 X616 e617 => ?_)
  refine own_aloadN X616 hx (hb hby own_d7_16) (q := 17) rfl rfl rfl ?_
  refine own_getF X616 hx hZ hown (host := "") (Or.inl (hw _ (List.mem_of_getElem? (i := 49) rfl))) Via.refl e617 F608 (hb hby own_d7_17) (q := 20) rfl (fun T618 X619 e620 => ?_)
  refine own_callQ X619 hx hZ hown (hw _ (List.mem_of_getElem? (i := 51) rfl)) (hw _ (List.mem_of_getElem? (i := 52) rfl)) (hw _ (List.mem_of_getElem? (i := 54) rfl)) (hw _ (List.mem_of_getElem? (i := 53) rfl)) (hw _ (List.mem_of_getElem? (i := 7) rfl)) (hw _ (List.mem_of_getElem? (i := 55) rfl)) E605 (by decide) (rm8_15 l Z a0 hw [] a1 a2 ea (mc + (1 : Int32)) v0 v1 v2 v3 v4 v5 v6 v7 v8 v9 v10 v11 v12 v13 v14 h603 n0 Z613 E605 F606 F607 F608 V609 L610 E611 G_a1 ne_ea_a1 ne_a2_a1 hmir) own_pd6 rfl e620 (by rw [hml]; rfl) (argsL := [.ref a2, .ref ea, .int (15 : Int32)]) (st := []) rfl (W := 0) (Nat.le_of_eq rfl) (by decide) (by decide) (by decide) (by decide) (hb hby own_d7_20) (q := 23) rfl (fun v624 T625 L626 X627 hQ628 => ?_)
  obtain ⟨a632, rfl, N629, K630, O633, A634, E635, F636, F637, F638, A639, L640, E641⟩ := hQ628
  have Z642 : n0 ≤ T625.heap.size := Nat.le_trans Z613 K630.1
  have K643 := K612.trans K630 (allS (Or.inl (List.mem_of_getElem? (i := 0) rfl)) all0)
  have N631 := Fr.app N614 N629
  have ne644 : a1 ≠ a632 := Nat.ne_of_lt (Nat.lt_of_lt_of_le E605.lt O633)
  have ne645 : ea ≠ a632 := Nat.ne_of_lt (Nat.lt_of_lt_of_le V609.lt O633)
  have ne646 : a2 ≠ a632 := Nat.ne_of_lt (Nat.lt_of_lt_of_le E611.lt O633)
  have Z647 : n0 ≤ a632 := Nat.le_trans Z613 O633
  have O648 : h0.size ≤ a632 := Nat.le_trans K612.1 O633
  show own_Go p e below (own_E s 1 22 (own_Q7_15 Z a1 a2 mc ea v0 v1 v2 v3 v4 v5 v6 v7 v8 v9 v10 v11 v12 v13 v14 h0 n0)) (T625.setTop (mkF m 23 #[.val (.ref a1), .val (.ref a2)] []))
  refine own_iconst X627 hx (v := (1 : Int32)) (hb hby own_d7_23) (q := 24) rfl rfl ?_
  refine own_retN X627 hx hlk (t := .boolean) (by simp) Bd.returns (hb hby own_d7_24) ?_ (by decide) (by decide)
  show own_Q7_15 Z a1 a2 mc ea v0 v1 v2 v3 v4 v5 v6 v7 v8 v9 v10 v11 v12 v13 v14 h0 n0 _ T625.heap _
  exact ⟨a632, rfl, N631, K643, O648, A634, E635, F636, F637, F638, A639, L640, E641⟩
theorem own_ef8 (m : MethodId) (a1 : Addr) (a2 : Addr) (a3 : Addr) (p4 : Int32) : entryFrame m #[.ref a1, .ref a2, .ref a3, .int p4] 4 = mkF m 0 #[.val (.ref a1), .val (.ref a2), .val (.ref a3), .val (.int p4)] [] := by first | (simp [entryFrame, mkF, argsToLocals, Value.category]; done) | rfl

def own_Q8_r10 (Z : State) (a1 : Addr) (a2 : Addr) (a3 : Addr) (p4 : Int32) (mc : Int32) (vs : List Value) (h0 : Heap) (n0 : Nat) (v : Option Value) (h : Heap) (L : List Loc) : Prop := v = none ∧ Fr n0 L ∧ Keep h0 h [a1, a3] ∧ Exa Z h a1 "java/util/ArrayList" ∧ Fld Z h a1 "java/util/AbstractList" "modCount" "I" (.int mc) ∧ Fld Z h a1 "java/util/ArrayList" "elementData" "[Ljava/lang/Object;" (.ref a3) ∧ Fld Z h a1 "java/util/ArrayList" "size" "I" (.int (p4 + (1 : Int32))) ∧ own_R Z h a3 (vs.set p4.toNatClampNeg (.ref a2)) ∧ Exa Z h a2 "java/lang/Integer"
set_option maxRecDepth 65536 in
set_option maxHeartbeats 40000000 in
theorem rm8_r10 (l : Launch) (Z : State) (a0 : Array Value) (hw : ∀ d ∈ tables_1, d.before a0 Z = true) (ws : List Jvm.Cond) (a1 : Addr) (a2 : Addr) (a3 : Addr) (p4 : Int32) (mc : Int32) (vs : List Value) (h0 : Heap) (n0 : Nat) (E0p : Exa Z h0 a1 "java/util/ArrayList") (F1p : Fld Z h0 a1 "java/util/AbstractList" "modCount" "I" (.int mc)) (F2p : Fld Z h0 a1 "java/util/ArrayList" "elementData" "[Ljava/lang/Object;" (.ref a3)) (F3p : Fld Z h0 a1 "java/util/ArrayList" "size" "I" (.int p4)) (V4p : own_R Z h0 a3 vs) (E5p : Exa Z h0 a2 "java/lang/Integer") (G_a1 : n0 ≤ a1) (G_a3 : n0 ≤ a3) (ne_a3_a1 : a3 ≠ a1) (ne_a2_a1 : a2 ≠ a1) (ne_a2_a3 : a2 ≠ a3) (hlen : vs.length = 10) (hp : ¬ p4 < 0 ∧ p4.toNatClampNeg < 10 ∧ ¬ p4 = 10) :
    MetFree l (⟨"java/util/ArrayList", "add", "(Ljava/lang/Object;[Ljava/lang/Object;I)V"⟩ : MethodName) (head1 (Jvm.Cond.code (⟨"java/util/ArrayList", "add", "(Ljava/lang/Object;[Ljava/lang/Object;I)V"⟩ : MethodName) jdk_38_method_24_code 4 none :: ws) ({ frames := 0, cells := 0, slots := 0, locals := 0 } : Room)) (fun a U => a = #[.ref a1, .ref a2, .ref a3, .int p4] ∧ Z.Warmed39 U.vm ∧ U.heap = h0) (fun _ _ _ _ _ => True) (fun _ U o U' => ∃ v L, o = .returned v ∧ own_Q8_r10 Z a1 a2 a3 p4 mc vs h0 n0 v U'.heap L ∧ FrameEnd U o U' L ({ frames := 0, cells := 0, slots := 0, locals := 0 } : Room).cells ({ frames := 0, cells := 0, slots := 0, locals := 0 } : Room).slots) := by
  refine MetFree.of_bodySF (plainFor_of_name own_pn8) hisR ?_
  intro p e s m args below meth c s₁ Bd hml0 hP hK
  obtain ⟨rfl, hZ, hh⟩ := hP
  have hx := Bd.exec
  have hby := Bd.bytes
  have hml : c.maxLocals = 4 := hml0
  have hown : s.vm.findClass "java/util/ArrayList" = some m.cls := findClass_of_methodNamed Bd.named
  have hnm := (name_of_methodNamed Bd.named Bd.method).1
  have hlk : meth.locks = false := BodyLoose.notSynchronized Bd
  have X0 : Stand p l e ({ frames := 0, cells := 0, slots := 0, locals := 0 } : Room) s m #[.ref a1, .ref a2, .ref a3, .int p4] below meth c s₁ [] 0 0 := Stand.of_body Bd
  have e0 : s₁.heap = h0 := by rw [← hh, Bd.state]; rfl
  have N0 := Fr.nil n0
  have K0 := Keep.refl h0 [a1, a3]
  show own_Go p e below (own_E s 0 0 (own_Q8_r10 Z a1 a2 a3 p4 mc vs h0 n0)) (s₁.setTop (entryFrame m #[.ref a1, .ref a2, .ref a3, .int p4] 4))
  rw [own_ef8]
  refine own_iloadN X0 hx (hb hby own_d8_0) (q := 1) rfl rfl ?_
  refine own_aloadN X0 hx (hb hby own_d8_1) (q := 2) rfl rfl rfl ?_
  refine own_alen X0 hx hZ (n := (10 : Int32)) e0 V4p.arr (by rw [hlen]; rfl) (hb hby own_d8_2) (q := 3) rfl ?_
  refine own_icmpM X0 hx (hb hby own_d8_3) (cd := .ne) (x := p4) (y := (10 : Int32)) (pt := 11) (q := 6) (by decide) (by decide) rfl rfl (fun _ => ?_) (fun h => False.elim ((hp.2.2 : ¬ (p4 = (10 : Int32))) h))
  refine own_aloadN X0 hx (hb hby own_d8_11) (q := 12) rfl rfl rfl ?_
  refine own_iloadN X0 hx (hb hby own_d8_12) (q := 13) rfl rfl ?_
  refine own_aloadN X0 hx (hb hby own_d8_13) (q := 14) rfl rfl rfl ?_
  refine own_aastore X0 hx hZ e0 V4p hp.1 rfl (by rw [hlen]; exact hp.2.1) (V4p.sto (Ins.of_exa E5p (hw _ (List.mem_of_getElem? (i := 72) rfl)))) (hb hby own_d8_14) (q := 15) rfl (fun T649 h652 X650 e651 W653 A654 => ?_)
  replace A654 : own_R Z h652 a3 (vs.set p4.toNatClampNeg (.ref a2)) := A654
  have E655 := Exa.wr W653 E0p
  have F656 := Fld.other W653 F1p (Or.inl (Ne.symm ne_a3_a1))
  have F657 := Fld.other W653 F2p (Or.inl (Ne.symm ne_a3_a1))
  have F658 := Fld.other W653 F3p (Or.inl (Ne.symm ne_a3_a1))
  have E659 := Exa.wr W653 E5p
  have K660 := K0.wr W653 (Or.inl (List.mem_of_getElem? (i := 1) rfl))
  have N661 := Fr.snoc X650 N0 G_a3
  refine own_aloadN X650 hx (hb hby own_d8_15) (q := 16) rfl rfl rfl ?_
  refine own_iloadN X650 hx (hb hby own_d8_16) (q := 17) rfl rfl ?_
  refine own_iconst X650 hx (v := (1 : Int32)) (hb hby own_d8_17) (q := 18) rfl rfl ?_
  refine own_iadd X650 hx (hb hby own_d8_18) (q := 19) rfl ?_
  refine own_putF X650 hx hZ hown (host := "") (Or.inl (hw _ (List.mem_of_getElem? (i := 49) rfl))) Via.refl e651 F658 E655 (Or.inl (hw _ (List.mem_of_getElem? (i := 50) rfl))) (hw _ (List.mem_of_getElem? (i := 6) rfl)) (ty := .int) (by decide) rfl rfl (hb hby own_d8_19) (q := 22) rfl (fun T662 h665 X663 e664 W666 => ?_)
  have E667 := Exa.wr W666 E655
  have F668 := Fld.other W666 F656 (Or.inr (slot_ne (C := "java/util/ArrayList") (Or.inl (hw _ (List.mem_of_getElem? (i := 27) rfl))) (Or.inl (hw _ (List.mem_of_getElem? (i := 50) rfl))) (by decide) (t := .int) (t' := .int) (by decide) (by decide)))
  have F669 := Fld.other W666 F657 (Or.inr (slot_ne (C := "java/util/ArrayList") (Or.inl (hw _ (List.mem_of_getElem? (i := 30) rfl))) (Or.inl (hw _ (List.mem_of_getElem? (i := 50) rfl))) (by decide) (t := (.array (.object "java/lang/Object"))) (t' := .int) (by decide) (by decide)))
  have F670 := Fld.same W666 F658
  have E671 := Exa.wr W666 E659
  have A672 := A654.other W666 ne_a3_a1
  have K673 := K660.wr W666 (Or.inl (List.mem_of_getElem? (i := 0) rfl))
  have N674 := Fr.snoc X663 N661 G_a1
  refine own_retV X663 hx hlk (rest := []) Bd.returns (hb hby own_d8_22) ?_ (by decide) (by decide)
  show own_Q8_r10 Z a1 a2 a3 p4 mc vs h0 n0 _ T662.heap _
  rw [e664]
  exact ⟨rfl, N674, K673, E667, F668, F669, F670, A672, E671⟩

def own_f7_r10 (a1 : Addr) (a2 : Addr) (mc : Int32) (ea : Addr) (sz : Int32) (vs : List Value) : Int32 := (1 : Int32)
def own_Q7_r10 (Z : State) (a1 : Addr) (a2 : Addr) (mc : Int32) (ea : Addr) (sz : Int32) (vs : List Value) (h0 : Heap) (n0 : Nat) (v : Option Value) (h : Heap) (L : List Loc) : Prop := v = some (.int (own_f7_r10 a1 a2 mc ea sz vs)) ∧ Fr n0 L ∧ Keep h0 h [a1, ea] ∧ Exa Z h a1 "java/util/ArrayList" ∧ Fld Z h a1 "java/util/AbstractList" "modCount" "I" (.int (mc + (1 : Int32))) ∧ Fld Z h a1 "java/util/ArrayList" "elementData" "[Ljava/lang/Object;" (.ref ea) ∧ Fld Z h a1 "java/util/ArrayList" "size" "I" (.int (sz + (1 : Int32))) ∧ own_R Z h ea (vs.set sz.toNatClampNeg (.ref a2)) ∧ Exa Z h a2 "java/lang/Integer"
set_option maxRecDepth 65536 in
set_option maxHeartbeats 40000000 in
theorem rm7_r10 (l : Launch) (Z : State) (a0 : Array Value) (hw : ∀ d ∈ tables_1, d.before a0 Z = true) (ws : List Jvm.Cond) (a1 : Addr) (a2 : Addr) (mc : Int32) (ea : Addr) (sz : Int32) (vs : List Value) (h0 : Heap) (n0 : Nat) (E0p : Exa Z h0 a1 "java/util/ArrayList") (F1p : Fld Z h0 a1 "java/util/AbstractList" "modCount" "I" (.int mc)) (F2p : Fld Z h0 a1 "java/util/ArrayList" "elementData" "[Ljava/lang/Object;" (.ref ea)) (F3p : Fld Z h0 a1 "java/util/ArrayList" "size" "I" (.int sz)) (V4p : own_R Z h0 ea vs) (E5p : Exa Z h0 a2 "java/lang/Integer") (G_a1 : n0 ≤ a1) (G_ea : n0 ≤ ea) (ne_ea_a1 : ea ≠ a1) (ne_a2_a1 : a2 ≠ a1) (ne_a2_ea : a2 ≠ ea) (hlen : vs.length = 10) (hp : ¬ sz < 0 ∧ sz.toNatClampNeg < 10 ∧ ¬ sz = 10) :
    MetFree l (⟨"java/util/ArrayList", "add", "(Ljava/lang/Object;)Z"⟩ : MethodName) (head1 (Jvm.Cond.code (⟨"java/util/ArrayList", "add", "(Ljava/lang/Object;)Z"⟩ : MethodName) jdk_38_method_25_code 2 (some .boolean) :: ws) ({ frames := 1, cells := 0, slots := 0, locals := 15 } : Room)) (fun a U => a = #[.ref a1, .ref a2] ∧ Z.Warmed39 U.vm ∧ U.heap = h0) (fun _ _ _ _ _ => True) (fun _ U o U' => ∃ v L, o = .returned v ∧ own_Q7_r10 Z a1 a2 mc ea sz vs h0 n0 v U'.heap L ∧ FrameEnd U o U' L ({ frames := 1, cells := 0, slots := 0, locals := 15 } : Room).cells ({ frames := 1, cells := 0, slots := 0, locals := 15 } : Room).slots) := by
  refine MetFree.of_bodySF (plainFor_of_name own_pn8) hisR ?_
  intro p e s m args below meth c s₁ Bd hml0 hP hK
  obtain ⟨rfl, hZ, hh⟩ := hP
  have hx := Bd.exec
  have hby := Bd.bytes
  have hml : c.maxLocals = 2 := hml0
  have hown : s.vm.findClass "java/util/ArrayList" = some m.cls := findClass_of_methodNamed Bd.named
  have hnm := (name_of_methodNamed Bd.named Bd.method).1
  have hlk : meth.locks = false := BodyLoose.notSynchronized Bd
  have X0 : Stand p l e ({ frames := 1, cells := 0, slots := 0, locals := 15 } : Room) s m #[.ref a1, .ref a2] below meth c s₁ [] 0 0 := Stand.of_body Bd
  have e0 : s₁.heap = h0 := by rw [← hh, Bd.state]; rfl
  have N0 := Fr.nil n0
  have K0 := Keep.refl h0 [a1, ea]
  show own_Go p e below (own_E s 0 0 (own_Q7_r10 Z a1 a2 mc ea sz vs h0 n0)) (s₁.setTop (entryFrame m #[.ref a1, .ref a2] 2))
  rw [own_ef7]
  refine own_aloadN X0 hx (hb hby own_d7_0) (q := 1) rfl rfl rfl ?_
  refine own_dup X0 hx (hb hby own_d7_1) (q := 2) rfl rfl ?_
  refine own_getF X0 hx hZ hown (host := "") (Or.inl (hw _ (List.mem_of_getElem? (i := 47) rfl))) (Via.of (hw _ (List.mem_of_getElem? (i := 48) rfl))) e0 F1p (hb hby own_d7_2) (q := 5) rfl (fun T675 X676 e677 => ?_)
  refine own_iconst X676 hx (v := (1 : Int32)) (hb hby own_d7_5) (q := 6) rfl rfl ?_
  refine own_iadd X676 hx (hb hby own_d7_6) (q := 7) rfl ?_
  refine own_putF X676 hx hZ hown (host := "") (Or.inl (hw _ (List.mem_of_getElem? (i := 47) rfl))) (Via.of (hw _ (List.mem_of_getElem? (i := 48) rfl))) e677 F1p E0p (Or.inl (hw _ (List.mem_of_getElem? (i := 27) rfl))) (hw _ (List.mem_of_getElem? (i := 6) rfl)) (ty := .int) (by decide) rfl rfl (hb hby own_d7_7) (q := 10) rfl (fun T678 h681 X679 e680 W682 => ?_)
  have E683 := Exa.wr W682 E0p
  have F684 := Fld.same W682 F1p
  have F685 := Fld.other W682 F2p (Or.inr (slot_ne (C := "java/util/ArrayList") (Or.inl (hw _ (List.mem_of_getElem? (i := 30) rfl))) (Or.inl (hw _ (List.mem_of_getElem? (i := 27) rfl))) (by decide) (t := (.array (.object "java/lang/Object"))) (t' := .int) (by decide) (by decide)))
  have F686 := Fld.other W682 F3p (Or.inr (slot_ne (C := "java/util/ArrayList") (Or.inl (hw _ (List.mem_of_getElem? (i := 50) rfl))) (Or.inl (hw _ (List.mem_of_getElem? (i := 27) rfl))) (by decide) (t := .int) (t' := .int) (by decide) (by decide)))
  have V687 := V4p.other W682 ne_ea_a1
  have E688 := Exa.wr W682 E5p
  have K689 := K0.wr W682 (Or.inl (List.mem_of_getElem? (i := 0) rfl))
  have N690 := Fr.snoc X679 N0 G_a1
  refine own_aloadN X679 hx (hb hby own_d7_10) (q := 11) rfl rfl rfl ?_
  refine own_aloadN X679 hx (hb hby own_d7_11) (q := 12) rfl rfl rfl ?_
  refine own_aloadN X679 hx (hb hby own_d7_12) (q := 13) rfl rfl rfl ?_
  refine own_getF X679 hx hZ hown (host := "") (Or.inl (hw _ (List.mem_of_getElem? (i := 29) rfl))) Via.refl e680 F685 (hb hby own_d7_13) (q := 16) rfl (fun T691 X692 e693 => ?_)
  refine own_aloadN X692 hx (hb hby own_d7_16) (q := 17) rfl rfl rfl ?_
  refine own_getF X692 hx hZ hown (host := "") (Or.inl (hw _ (List.mem_of_getElem? (i := 49) rfl))) Via.refl e693 F686 (hb hby own_d7_17) (q := 20) rfl (fun T694 X695 e696 => ?_)
  refine own_callQ X695 hx hZ hown (hw _ (List.mem_of_getElem? (i := 51) rfl)) (hw _ (List.mem_of_getElem? (i := 52) rfl)) (hw _ (List.mem_of_getElem? (i := 54) rfl)) (hw _ (List.mem_of_getElem? (i := 53) rfl)) (hw _ (List.mem_of_getElem? (i := 7) rfl)) (hw _ (List.mem_of_getElem? (i := 55) rfl)) E683 (by decide) (rm8_r10 l Z a0 hw [] a1 a2 ea sz (mc + (1 : Int32)) vs h681 n0 E683 F684 F685 F686 V687 E688 G_a1 G_ea ne_ea_a1 ne_a2_a1 ne_a2_ea hlen hp) own_pd6 rfl e696 (by rw [hml]; rfl) (argsL := [.ref a2, .ref ea, .int sz]) (st := []) rfl (W := 0) (Nat.le_of_eq rfl) (by decide) (by decide) (by decide) (by decide) (hb hby own_d7_20) (q := 23) rfl (fun v700 T701 L702 X703 hQ704 => ?_)
  obtain ⟨rfl, N705, K706, E708, F709, F710, F711, A712, E713⟩ := hQ704
  have K714 := K689.trans K706 (allS (Or.inl (List.mem_of_getElem? (i := 0) rfl)) (allS (Or.inl (List.mem_of_getElem? (i := 1) rfl)) all0))
  have N707 := Fr.app N690 N705
  show own_Go p e below (own_E s 0 0 (own_Q7_r10 Z a1 a2 mc ea sz vs h0 n0)) (T701.setTop (mkF m 23 #[.val (.ref a1), .val (.ref a2)] []))
  refine own_iconst X703 hx (v := (1 : Int32)) (hb hby own_d7_23) (q := 24) rfl rfl ?_
  refine own_retN X703 hx hlk (t := .boolean) (by simp) Bd.returns (hb hby own_d7_24) ?_ (by decide) (by decide)
  have r : own_f7_r10 a1 a2 mc ea sz vs = (1 : Int32) := by rw [own_f7_r10]
  show own_Q7_r10 Z a1 a2 mc ea sz vs h0 n0 _ T701.heap _
  exact ⟨(by rw [r] <;> rfl), N707, K714, E708, F709, F710, F711, A712, E713⟩

def own_Q8_r15 (Z : State) (a1 : Addr) (a2 : Addr) (a3 : Addr) (p4 : Int32) (mc : Int32) (vs : List Value) (h0 : Heap) (n0 : Nat) (v : Option Value) (h : Heap) (L : List Loc) : Prop := v = none ∧ Fr n0 L ∧ Keep h0 h [a1, a3] ∧ Exa Z h a1 "java/util/ArrayList" ∧ Fld Z h a1 "java/util/AbstractList" "modCount" "I" (.int mc) ∧ Fld Z h a1 "java/util/ArrayList" "elementData" "[Ljava/lang/Object;" (.ref a3) ∧ Fld Z h a1 "java/util/ArrayList" "size" "I" (.int (p4 + (1 : Int32))) ∧ own_R Z h a3 (vs.set p4.toNatClampNeg (.ref a2)) ∧ Exa Z h a2 "java/lang/Integer"
set_option maxRecDepth 65536 in
set_option maxHeartbeats 40000000 in
theorem rm8_r15 (l : Launch) (Z : State) (a0 : Array Value) (hw : ∀ d ∈ tables_1, d.before a0 Z = true) (ws : List Jvm.Cond) (a1 : Addr) (a2 : Addr) (a3 : Addr) (p4 : Int32) (mc : Int32) (vs : List Value) (h0 : Heap) (n0 : Nat) (E0p : Exa Z h0 a1 "java/util/ArrayList") (F1p : Fld Z h0 a1 "java/util/AbstractList" "modCount" "I" (.int mc)) (F2p : Fld Z h0 a1 "java/util/ArrayList" "elementData" "[Ljava/lang/Object;" (.ref a3)) (F3p : Fld Z h0 a1 "java/util/ArrayList" "size" "I" (.int p4)) (V4p : own_R Z h0 a3 vs) (E5p : Exa Z h0 a2 "java/lang/Integer") (G_a1 : n0 ≤ a1) (G_a3 : n0 ≤ a3) (ne_a3_a1 : a3 ≠ a1) (ne_a2_a1 : a2 ≠ a1) (ne_a2_a3 : a2 ≠ a3) (hlen : vs.length = 15) (hp : ¬ p4 < 0 ∧ p4.toNatClampNeg < 15 ∧ ¬ p4 = 15) :
    MetFree l (⟨"java/util/ArrayList", "add", "(Ljava/lang/Object;[Ljava/lang/Object;I)V"⟩ : MethodName) (head1 (Jvm.Cond.code (⟨"java/util/ArrayList", "add", "(Ljava/lang/Object;[Ljava/lang/Object;I)V"⟩ : MethodName) jdk_38_method_24_code 4 none :: ws) ({ frames := 0, cells := 0, slots := 0, locals := 0 } : Room)) (fun a U => a = #[.ref a1, .ref a2, .ref a3, .int p4] ∧ Z.Warmed39 U.vm ∧ U.heap = h0) (fun _ _ _ _ _ => True) (fun _ U o U' => ∃ v L, o = .returned v ∧ own_Q8_r15 Z a1 a2 a3 p4 mc vs h0 n0 v U'.heap L ∧ FrameEnd U o U' L ({ frames := 0, cells := 0, slots := 0, locals := 0 } : Room).cells ({ frames := 0, cells := 0, slots := 0, locals := 0 } : Room).slots) := by
  refine MetFree.of_bodySF (plainFor_of_name own_pn8) hisR ?_
  intro p e s m args below meth c s₁ Bd hml0 hP hK
  obtain ⟨rfl, hZ, hh⟩ := hP
  have hx := Bd.exec
  have hby := Bd.bytes
  have hml : c.maxLocals = 4 := hml0
  have hown : s.vm.findClass "java/util/ArrayList" = some m.cls := findClass_of_methodNamed Bd.named
  have hnm := (name_of_methodNamed Bd.named Bd.method).1
  have hlk : meth.locks = false := BodyLoose.notSynchronized Bd
  have X0 : Stand p l e ({ frames := 0, cells := 0, slots := 0, locals := 0 } : Room) s m #[.ref a1, .ref a2, .ref a3, .int p4] below meth c s₁ [] 0 0 := Stand.of_body Bd
  have e0 : s₁.heap = h0 := by rw [← hh, Bd.state]; rfl
  have N0 := Fr.nil n0
  have K0 := Keep.refl h0 [a1, a3]
  show own_Go p e below (own_E s 0 0 (own_Q8_r15 Z a1 a2 a3 p4 mc vs h0 n0)) (s₁.setTop (entryFrame m #[.ref a1, .ref a2, .ref a3, .int p4] 4))
  rw [own_ef8]
  refine own_iloadN X0 hx (hb hby own_d8_0) (q := 1) rfl rfl ?_
  refine own_aloadN X0 hx (hb hby own_d8_1) (q := 2) rfl rfl rfl ?_
  refine own_alen X0 hx hZ (n := (15 : Int32)) e0 V4p.arr (by rw [hlen]; rfl) (hb hby own_d8_2) (q := 3) rfl ?_
  refine own_icmpM X0 hx (hb hby own_d8_3) (cd := .ne) (x := p4) (y := (15 : Int32)) (pt := 11) (q := 6) (by decide) (by decide) rfl rfl (fun _ => ?_) (fun h => False.elim ((hp.2.2 : ¬ (p4 = (15 : Int32))) h))
  refine own_aloadN X0 hx (hb hby own_d8_11) (q := 12) rfl rfl rfl ?_
  refine own_iloadN X0 hx (hb hby own_d8_12) (q := 13) rfl rfl ?_
  refine own_aloadN X0 hx (hb hby own_d8_13) (q := 14) rfl rfl rfl ?_
  refine own_aastore X0 hx hZ e0 V4p hp.1 rfl (by rw [hlen]; exact hp.2.1) (V4p.sto (Ins.of_exa E5p (hw _ (List.mem_of_getElem? (i := 72) rfl)))) (hb hby own_d8_14) (q := 15) rfl (fun T715 h718 X716 e717 W719 A720 => ?_)
  replace A720 : own_R Z h718 a3 (vs.set p4.toNatClampNeg (.ref a2)) := A720
  have E721 := Exa.wr W719 E0p
  have F722 := Fld.other W719 F1p (Or.inl (Ne.symm ne_a3_a1))
  have F723 := Fld.other W719 F2p (Or.inl (Ne.symm ne_a3_a1))
  have F724 := Fld.other W719 F3p (Or.inl (Ne.symm ne_a3_a1))
  have E725 := Exa.wr W719 E5p
  have K726 := K0.wr W719 (Or.inl (List.mem_of_getElem? (i := 1) rfl))
  have N727 := Fr.snoc X716 N0 G_a3
  refine own_aloadN X716 hx (hb hby own_d8_15) (q := 16) rfl rfl rfl ?_
  refine own_iloadN X716 hx (hb hby own_d8_16) (q := 17) rfl rfl ?_
  refine own_iconst X716 hx (v := (1 : Int32)) (hb hby own_d8_17) (q := 18) rfl rfl ?_
  refine own_iadd X716 hx (hb hby own_d8_18) (q := 19) rfl ?_
  refine own_putF X716 hx hZ hown (host := "") (Or.inl (hw _ (List.mem_of_getElem? (i := 49) rfl))) Via.refl e717 F724 E721 (Or.inl (hw _ (List.mem_of_getElem? (i := 50) rfl))) (hw _ (List.mem_of_getElem? (i := 6) rfl)) (ty := .int) (by decide) rfl rfl (hb hby own_d8_19) (q := 22) rfl (fun T728 h731 X729 e730 W732 => ?_)
  have E733 := Exa.wr W732 E721
  have F734 := Fld.other W732 F722 (Or.inr (slot_ne (C := "java/util/ArrayList") (Or.inl (hw _ (List.mem_of_getElem? (i := 27) rfl))) (Or.inl (hw _ (List.mem_of_getElem? (i := 50) rfl))) (by decide) (t := .int) (t' := .int) (by decide) (by decide)))
  have F735 := Fld.other W732 F723 (Or.inr (slot_ne (C := "java/util/ArrayList") (Or.inl (hw _ (List.mem_of_getElem? (i := 30) rfl))) (Or.inl (hw _ (List.mem_of_getElem? (i := 50) rfl))) (by decide) (t := (.array (.object "java/lang/Object"))) (t' := .int) (by decide) (by decide)))
  have F736 := Fld.same W732 F724
  have E737 := Exa.wr W732 E725
  have A738 := A720.other W732 ne_a3_a1
  have K739 := K726.wr W732 (Or.inl (List.mem_of_getElem? (i := 0) rfl))
  have N740 := Fr.snoc X729 N727 G_a1
  refine own_retV X729 hx hlk (rest := []) Bd.returns (hb hby own_d8_22) ?_ (by decide) (by decide)
  show own_Q8_r15 Z a1 a2 a3 p4 mc vs h0 n0 _ T728.heap _
  rw [e730]
  exact ⟨rfl, N740, K739, E733, F734, F735, F736, A738, E737⟩

def own_f7_r15 (a1 : Addr) (a2 : Addr) (mc : Int32) (ea : Addr) (sz : Int32) (vs : List Value) : Int32 := (1 : Int32)
def own_Q7_r15 (Z : State) (a1 : Addr) (a2 : Addr) (mc : Int32) (ea : Addr) (sz : Int32) (vs : List Value) (h0 : Heap) (n0 : Nat) (v : Option Value) (h : Heap) (L : List Loc) : Prop := v = some (.int (own_f7_r15 a1 a2 mc ea sz vs)) ∧ Fr n0 L ∧ Keep h0 h [a1, ea] ∧ Exa Z h a1 "java/util/ArrayList" ∧ Fld Z h a1 "java/util/AbstractList" "modCount" "I" (.int (mc + (1 : Int32))) ∧ Fld Z h a1 "java/util/ArrayList" "elementData" "[Ljava/lang/Object;" (.ref ea) ∧ Fld Z h a1 "java/util/ArrayList" "size" "I" (.int (sz + (1 : Int32))) ∧ own_R Z h ea (vs.set sz.toNatClampNeg (.ref a2)) ∧ Exa Z h a2 "java/lang/Integer"
set_option maxRecDepth 65536 in
set_option maxHeartbeats 40000000 in
theorem rm7_r15 (l : Launch) (Z : State) (a0 : Array Value) (hw : ∀ d ∈ tables_1, d.before a0 Z = true) (ws : List Jvm.Cond) (a1 : Addr) (a2 : Addr) (mc : Int32) (ea : Addr) (sz : Int32) (vs : List Value) (h0 : Heap) (n0 : Nat) (E0p : Exa Z h0 a1 "java/util/ArrayList") (F1p : Fld Z h0 a1 "java/util/AbstractList" "modCount" "I" (.int mc)) (F2p : Fld Z h0 a1 "java/util/ArrayList" "elementData" "[Ljava/lang/Object;" (.ref ea)) (F3p : Fld Z h0 a1 "java/util/ArrayList" "size" "I" (.int sz)) (V4p : own_R Z h0 ea vs) (E5p : Exa Z h0 a2 "java/lang/Integer") (G_a1 : n0 ≤ a1) (G_ea : n0 ≤ ea) (ne_ea_a1 : ea ≠ a1) (ne_a2_a1 : a2 ≠ a1) (ne_a2_ea : a2 ≠ ea) (hlen : vs.length = 15) (hp : ¬ sz < 0 ∧ sz.toNatClampNeg < 15 ∧ ¬ sz = 15) :
    MetFree l (⟨"java/util/ArrayList", "add", "(Ljava/lang/Object;)Z"⟩ : MethodName) (head1 (Jvm.Cond.code (⟨"java/util/ArrayList", "add", "(Ljava/lang/Object;)Z"⟩ : MethodName) jdk_38_method_25_code 2 (some .boolean) :: ws) ({ frames := 1, cells := 0, slots := 0, locals := 15 } : Room)) (fun a U => a = #[.ref a1, .ref a2] ∧ Z.Warmed39 U.vm ∧ U.heap = h0) (fun _ _ _ _ _ => True) (fun _ U o U' => ∃ v L, o = .returned v ∧ own_Q7_r15 Z a1 a2 mc ea sz vs h0 n0 v U'.heap L ∧ FrameEnd U o U' L ({ frames := 1, cells := 0, slots := 0, locals := 15 } : Room).cells ({ frames := 1, cells := 0, slots := 0, locals := 15 } : Room).slots) := by
  refine MetFree.of_bodySF (plainFor_of_name own_pn8) hisR ?_
  intro p e s m args below meth c s₁ Bd hml0 hP hK
  obtain ⟨rfl, hZ, hh⟩ := hP
  have hx := Bd.exec
  have hby := Bd.bytes
  have hml : c.maxLocals = 2 := hml0
  have hown : s.vm.findClass "java/util/ArrayList" = some m.cls := findClass_of_methodNamed Bd.named
  have hnm := (name_of_methodNamed Bd.named Bd.method).1
  have hlk : meth.locks = false := BodyLoose.notSynchronized Bd
  have X0 : Stand p l e ({ frames := 1, cells := 0, slots := 0, locals := 15 } : Room) s m #[.ref a1, .ref a2] below meth c s₁ [] 0 0 := Stand.of_body Bd
  have e0 : s₁.heap = h0 := by rw [← hh, Bd.state]; rfl
  have N0 := Fr.nil n0
  have K0 := Keep.refl h0 [a1, ea]
  show own_Go p e below (own_E s 0 0 (own_Q7_r15 Z a1 a2 mc ea sz vs h0 n0)) (s₁.setTop (entryFrame m #[.ref a1, .ref a2] 2))
  rw [own_ef7]
  refine own_aloadN X0 hx (hb hby own_d7_0) (q := 1) rfl rfl rfl ?_
  refine own_dup X0 hx (hb hby own_d7_1) (q := 2) rfl rfl ?_
  refine own_getF X0 hx hZ hown (host := "") (Or.inl (hw _ (List.mem_of_getElem? (i := 47) rfl))) (Via.of (hw _ (List.mem_of_getElem? (i := 48) rfl))) e0 F1p (hb hby own_d7_2) (q := 5) rfl (fun T741 X742 e743 => ?_)
  refine own_iconst X742 hx (v := (1 : Int32)) (hb hby own_d7_5) (q := 6) rfl rfl ?_
  refine own_iadd X742 hx (hb hby own_d7_6) (q := 7) rfl ?_
  refine own_putF X742 hx hZ hown (host := "") (Or.inl (hw _ (List.mem_of_getElem? (i := 47) rfl))) (Via.of (hw _ (List.mem_of_getElem? (i := 48) rfl))) e743 F1p E0p (Or.inl (hw _ (List.mem_of_getElem? (i := 27) rfl))) (hw _ (List.mem_of_getElem? (i := 6) rfl)) (ty := .int) (by decide) rfl rfl (hb hby own_d7_7) (q := 10) rfl (fun T744 h747 X745 e746 W748 => ?_)
  have E749 := Exa.wr W748 E0p
  have F750 := Fld.same W748 F1p
  have F751 := Fld.other W748 F2p (Or.inr (slot_ne (C := "java/util/ArrayList") (Or.inl (hw _ (List.mem_of_getElem? (i := 30) rfl))) (Or.inl (hw _ (List.mem_of_getElem? (i := 27) rfl))) (by decide) (t := (.array (.object "java/lang/Object"))) (t' := .int) (by decide) (by decide)))
  have F752 := Fld.other W748 F3p (Or.inr (slot_ne (C := "java/util/ArrayList") (Or.inl (hw _ (List.mem_of_getElem? (i := 50) rfl))) (Or.inl (hw _ (List.mem_of_getElem? (i := 27) rfl))) (by decide) (t := .int) (t' := .int) (by decide) (by decide)))
  have V753 := V4p.other W748 ne_ea_a1
  have E754 := Exa.wr W748 E5p
  have K755 := K0.wr W748 (Or.inl (List.mem_of_getElem? (i := 0) rfl))
  have N756 := Fr.snoc X745 N0 G_a1
  refine own_aloadN X745 hx (hb hby own_d7_10) (q := 11) rfl rfl rfl ?_
  refine own_aloadN X745 hx (hb hby own_d7_11) (q := 12) rfl rfl rfl ?_
  refine own_aloadN X745 hx (hb hby own_d7_12) (q := 13) rfl rfl rfl ?_
  refine own_getF X745 hx hZ hown (host := "") (Or.inl (hw _ (List.mem_of_getElem? (i := 29) rfl))) Via.refl e746 F751 (hb hby own_d7_13) (q := 16) rfl (fun T757 X758 e759 => ?_)
  refine own_aloadN X758 hx (hb hby own_d7_16) (q := 17) rfl rfl rfl ?_
  refine own_getF X758 hx hZ hown (host := "") (Or.inl (hw _ (List.mem_of_getElem? (i := 49) rfl))) Via.refl e759 F752 (hb hby own_d7_17) (q := 20) rfl (fun T760 X761 e762 => ?_)
  refine own_callQ X761 hx hZ hown (hw _ (List.mem_of_getElem? (i := 51) rfl)) (hw _ (List.mem_of_getElem? (i := 52) rfl)) (hw _ (List.mem_of_getElem? (i := 54) rfl)) (hw _ (List.mem_of_getElem? (i := 53) rfl)) (hw _ (List.mem_of_getElem? (i := 7) rfl)) (hw _ (List.mem_of_getElem? (i := 55) rfl)) E749 (by decide) (rm8_r15 l Z a0 hw [] a1 a2 ea sz (mc + (1 : Int32)) vs h747 n0 E749 F750 F751 F752 V753 E754 G_a1 G_ea ne_ea_a1 ne_a2_a1 ne_a2_ea hlen hp) own_pd6 rfl e762 (by rw [hml]; rfl) (argsL := [.ref a2, .ref ea, .int sz]) (st := []) rfl (W := 0) (Nat.le_of_eq rfl) (by decide) (by decide) (by decide) (by decide) (hb hby own_d7_20) (q := 23) rfl (fun v766 T767 L768 X769 hQ770 => ?_)
  obtain ⟨rfl, N771, K772, E774, F775, F776, F777, A778, E779⟩ := hQ770
  have K780 := K755.trans K772 (allS (Or.inl (List.mem_of_getElem? (i := 0) rfl)) (allS (Or.inl (List.mem_of_getElem? (i := 1) rfl)) all0))
  have N773 := Fr.app N756 N771
  show own_Go p e below (own_E s 0 0 (own_Q7_r15 Z a1 a2 mc ea sz vs h0 n0)) (T767.setTop (mkF m 23 #[.val (.ref a1), .val (.ref a2)] []))
  refine own_iconst X769 hx (v := (1 : Int32)) (hb hby own_d7_23) (q := 24) rfl rfl ?_
  refine own_retN X769 hx hlk (t := .boolean) (by simp) Bd.returns (hb hby own_d7_24) ?_ (by decide) (by decide)
  have r : own_f7_r15 a1 a2 mc ea sz vs = (1 : Int32) := by rw [own_f7_r15]
  show own_Q7_r15 Z a1 a2 mc ea sz vs h0 n0 _ T767.heap _
  exact ⟨(by rw [r] <;> rfl), N773, K780, E774, F775, F776, F777, A778, E779⟩

def own_Q8_r22 (Z : State) (a1 : Addr) (a2 : Addr) (a3 : Addr) (p4 : Int32) (mc : Int32) (vs : List Value) (h0 : Heap) (n0 : Nat) (v : Option Value) (h : Heap) (L : List Loc) : Prop := v = none ∧ Fr n0 L ∧ Keep h0 h [a1, a3] ∧ Exa Z h a1 "java/util/ArrayList" ∧ Fld Z h a1 "java/util/AbstractList" "modCount" "I" (.int mc) ∧ Fld Z h a1 "java/util/ArrayList" "elementData" "[Ljava/lang/Object;" (.ref a3) ∧ Fld Z h a1 "java/util/ArrayList" "size" "I" (.int (p4 + (1 : Int32))) ∧ own_R Z h a3 (vs.set p4.toNatClampNeg (.ref a2)) ∧ Exa Z h a2 "java/lang/Integer"
set_option maxRecDepth 65536 in
set_option maxHeartbeats 40000000 in
theorem rm8_r22 (l : Launch) (Z : State) (a0 : Array Value) (hw : ∀ d ∈ tables_1, d.before a0 Z = true) (ws : List Jvm.Cond) (a1 : Addr) (a2 : Addr) (a3 : Addr) (p4 : Int32) (mc : Int32) (vs : List Value) (h0 : Heap) (n0 : Nat) (E0p : Exa Z h0 a1 "java/util/ArrayList") (F1p : Fld Z h0 a1 "java/util/AbstractList" "modCount" "I" (.int mc)) (F2p : Fld Z h0 a1 "java/util/ArrayList" "elementData" "[Ljava/lang/Object;" (.ref a3)) (F3p : Fld Z h0 a1 "java/util/ArrayList" "size" "I" (.int p4)) (V4p : own_R Z h0 a3 vs) (E5p : Exa Z h0 a2 "java/lang/Integer") (G_a1 : n0 ≤ a1) (G_a3 : n0 ≤ a3) (ne_a3_a1 : a3 ≠ a1) (ne_a2_a1 : a2 ≠ a1) (ne_a2_a3 : a2 ≠ a3) (hlen : vs.length = 22) (hp : ¬ p4 < 0 ∧ p4.toNatClampNeg < 22 ∧ ¬ p4 = 22) :
    MetFree l (⟨"java/util/ArrayList", "add", "(Ljava/lang/Object;[Ljava/lang/Object;I)V"⟩ : MethodName) (head1 (Jvm.Cond.code (⟨"java/util/ArrayList", "add", "(Ljava/lang/Object;[Ljava/lang/Object;I)V"⟩ : MethodName) jdk_38_method_24_code 4 none :: ws) ({ frames := 0, cells := 0, slots := 0, locals := 0 } : Room)) (fun a U => a = #[.ref a1, .ref a2, .ref a3, .int p4] ∧ Z.Warmed39 U.vm ∧ U.heap = h0) (fun _ _ _ _ _ => True) (fun _ U o U' => ∃ v L, o = .returned v ∧ own_Q8_r22 Z a1 a2 a3 p4 mc vs h0 n0 v U'.heap L ∧ FrameEnd U o U' L ({ frames := 0, cells := 0, slots := 0, locals := 0 } : Room).cells ({ frames := 0, cells := 0, slots := 0, locals := 0 } : Room).slots) := by
  refine MetFree.of_bodySF (plainFor_of_name own_pn8) hisR ?_
  intro p e s m args below meth c s₁ Bd hml0 hP hK
  obtain ⟨rfl, hZ, hh⟩ := hP
  have hx := Bd.exec
  have hby := Bd.bytes
  have hml : c.maxLocals = 4 := hml0
  have hown : s.vm.findClass "java/util/ArrayList" = some m.cls := findClass_of_methodNamed Bd.named
  have hnm := (name_of_methodNamed Bd.named Bd.method).1
  have hlk : meth.locks = false := BodyLoose.notSynchronized Bd
  have X0 : Stand p l e ({ frames := 0, cells := 0, slots := 0, locals := 0 } : Room) s m #[.ref a1, .ref a2, .ref a3, .int p4] below meth c s₁ [] 0 0 := Stand.of_body Bd
  have e0 : s₁.heap = h0 := by rw [← hh, Bd.state]; rfl
  have N0 := Fr.nil n0
  have K0 := Keep.refl h0 [a1, a3]
  show own_Go p e below (own_E s 0 0 (own_Q8_r22 Z a1 a2 a3 p4 mc vs h0 n0)) (s₁.setTop (entryFrame m #[.ref a1, .ref a2, .ref a3, .int p4] 4))
  rw [own_ef8]
  refine own_iloadN X0 hx (hb hby own_d8_0) (q := 1) rfl rfl ?_
  refine own_aloadN X0 hx (hb hby own_d8_1) (q := 2) rfl rfl rfl ?_
  refine own_alen X0 hx hZ (n := (22 : Int32)) e0 V4p.arr (by rw [hlen]; rfl) (hb hby own_d8_2) (q := 3) rfl ?_
  refine own_icmpM X0 hx (hb hby own_d8_3) (cd := .ne) (x := p4) (y := (22 : Int32)) (pt := 11) (q := 6) (by decide) (by decide) rfl rfl (fun _ => ?_) (fun h => False.elim ((hp.2.2 : ¬ (p4 = (22 : Int32))) h))
  refine own_aloadN X0 hx (hb hby own_d8_11) (q := 12) rfl rfl rfl ?_
  refine own_iloadN X0 hx (hb hby own_d8_12) (q := 13) rfl rfl ?_
  refine own_aloadN X0 hx (hb hby own_d8_13) (q := 14) rfl rfl rfl ?_
  refine own_aastore X0 hx hZ e0 V4p hp.1 rfl (by rw [hlen]; exact hp.2.1) (V4p.sto (Ins.of_exa E5p (hw _ (List.mem_of_getElem? (i := 72) rfl)))) (hb hby own_d8_14) (q := 15) rfl (fun T781 h784 X782 e783 W785 A786 => ?_)
  replace A786 : own_R Z h784 a3 (vs.set p4.toNatClampNeg (.ref a2)) := A786
  have E787 := Exa.wr W785 E0p
  have F788 := Fld.other W785 F1p (Or.inl (Ne.symm ne_a3_a1))
  have F789 := Fld.other W785 F2p (Or.inl (Ne.symm ne_a3_a1))
  have F790 := Fld.other W785 F3p (Or.inl (Ne.symm ne_a3_a1))
  have E791 := Exa.wr W785 E5p
  have K792 := K0.wr W785 (Or.inl (List.mem_of_getElem? (i := 1) rfl))
  have N793 := Fr.snoc X782 N0 G_a3
  refine own_aloadN X782 hx (hb hby own_d8_15) (q := 16) rfl rfl rfl ?_
  refine own_iloadN X782 hx (hb hby own_d8_16) (q := 17) rfl rfl ?_
  refine own_iconst X782 hx (v := (1 : Int32)) (hb hby own_d8_17) (q := 18) rfl rfl ?_
  refine own_iadd X782 hx (hb hby own_d8_18) (q := 19) rfl ?_
  refine own_putF X782 hx hZ hown (host := "") (Or.inl (hw _ (List.mem_of_getElem? (i := 49) rfl))) Via.refl e783 F790 E787 (Or.inl (hw _ (List.mem_of_getElem? (i := 50) rfl))) (hw _ (List.mem_of_getElem? (i := 6) rfl)) (ty := .int) (by decide) rfl rfl (hb hby own_d8_19) (q := 22) rfl (fun T794 h797 X795 e796 W798 => ?_)
  have E799 := Exa.wr W798 E787
  have F800 := Fld.other W798 F788 (Or.inr (slot_ne (C := "java/util/ArrayList") (Or.inl (hw _ (List.mem_of_getElem? (i := 27) rfl))) (Or.inl (hw _ (List.mem_of_getElem? (i := 50) rfl))) (by decide) (t := .int) (t' := .int) (by decide) (by decide)))
  have F801 := Fld.other W798 F789 (Or.inr (slot_ne (C := "java/util/ArrayList") (Or.inl (hw _ (List.mem_of_getElem? (i := 30) rfl))) (Or.inl (hw _ (List.mem_of_getElem? (i := 50) rfl))) (by decide) (t := (.array (.object "java/lang/Object"))) (t' := .int) (by decide) (by decide)))
  have F802 := Fld.same W798 F790
  have E803 := Exa.wr W798 E791
  have A804 := A786.other W798 ne_a3_a1
  have K805 := K792.wr W798 (Or.inl (List.mem_of_getElem? (i := 0) rfl))
  have N806 := Fr.snoc X795 N793 G_a1
  refine own_retV X795 hx hlk (rest := []) Bd.returns (hb hby own_d8_22) ?_ (by decide) (by decide)
  show own_Q8_r22 Z a1 a2 a3 p4 mc vs h0 n0 _ T794.heap _
  rw [e796]
  exact ⟨rfl, N806, K805, E799, F800, F801, F802, A804, E803⟩

def own_f7_r22 (a1 : Addr) (a2 : Addr) (mc : Int32) (ea : Addr) (sz : Int32) (vs : List Value) : Int32 := (1 : Int32)
def own_Q7_r22 (Z : State) (a1 : Addr) (a2 : Addr) (mc : Int32) (ea : Addr) (sz : Int32) (vs : List Value) (h0 : Heap) (n0 : Nat) (v : Option Value) (h : Heap) (L : List Loc) : Prop := v = some (.int (own_f7_r22 a1 a2 mc ea sz vs)) ∧ Fr n0 L ∧ Keep h0 h [a1, ea] ∧ Exa Z h a1 "java/util/ArrayList" ∧ Fld Z h a1 "java/util/AbstractList" "modCount" "I" (.int (mc + (1 : Int32))) ∧ Fld Z h a1 "java/util/ArrayList" "elementData" "[Ljava/lang/Object;" (.ref ea) ∧ Fld Z h a1 "java/util/ArrayList" "size" "I" (.int (sz + (1 : Int32))) ∧ own_R Z h ea (vs.set sz.toNatClampNeg (.ref a2)) ∧ Exa Z h a2 "java/lang/Integer"
set_option maxRecDepth 65536 in
set_option maxHeartbeats 40000000 in
theorem rm7_r22 (l : Launch) (Z : State) (a0 : Array Value) (hw : ∀ d ∈ tables_1, d.before a0 Z = true) (ws : List Jvm.Cond) (a1 : Addr) (a2 : Addr) (mc : Int32) (ea : Addr) (sz : Int32) (vs : List Value) (h0 : Heap) (n0 : Nat) (E0p : Exa Z h0 a1 "java/util/ArrayList") (F1p : Fld Z h0 a1 "java/util/AbstractList" "modCount" "I" (.int mc)) (F2p : Fld Z h0 a1 "java/util/ArrayList" "elementData" "[Ljava/lang/Object;" (.ref ea)) (F3p : Fld Z h0 a1 "java/util/ArrayList" "size" "I" (.int sz)) (V4p : own_R Z h0 ea vs) (E5p : Exa Z h0 a2 "java/lang/Integer") (G_a1 : n0 ≤ a1) (G_ea : n0 ≤ ea) (ne_ea_a1 : ea ≠ a1) (ne_a2_a1 : a2 ≠ a1) (ne_a2_ea : a2 ≠ ea) (hlen : vs.length = 22) (hp : ¬ sz < 0 ∧ sz.toNatClampNeg < 22 ∧ ¬ sz = 22) :
    MetFree l (⟨"java/util/ArrayList", "add", "(Ljava/lang/Object;)Z"⟩ : MethodName) (head1 (Jvm.Cond.code (⟨"java/util/ArrayList", "add", "(Ljava/lang/Object;)Z"⟩ : MethodName) jdk_38_method_25_code 2 (some .boolean) :: ws) ({ frames := 1, cells := 0, slots := 0, locals := 15 } : Room)) (fun a U => a = #[.ref a1, .ref a2] ∧ Z.Warmed39 U.vm ∧ U.heap = h0) (fun _ _ _ _ _ => True) (fun _ U o U' => ∃ v L, o = .returned v ∧ own_Q7_r22 Z a1 a2 mc ea sz vs h0 n0 v U'.heap L ∧ FrameEnd U o U' L ({ frames := 1, cells := 0, slots := 0, locals := 15 } : Room).cells ({ frames := 1, cells := 0, slots := 0, locals := 15 } : Room).slots) := by
  refine MetFree.of_bodySF (plainFor_of_name own_pn8) hisR ?_
  intro p e s m args below meth c s₁ Bd hml0 hP hK
  obtain ⟨rfl, hZ, hh⟩ := hP
  have hx := Bd.exec
  have hby := Bd.bytes
  have hml : c.maxLocals = 2 := hml0
  have hown : s.vm.findClass "java/util/ArrayList" = some m.cls := findClass_of_methodNamed Bd.named
  have hnm := (name_of_methodNamed Bd.named Bd.method).1
  have hlk : meth.locks = false := BodyLoose.notSynchronized Bd
  have X0 : Stand p l e ({ frames := 1, cells := 0, slots := 0, locals := 15 } : Room) s m #[.ref a1, .ref a2] below meth c s₁ [] 0 0 := Stand.of_body Bd
  have e0 : s₁.heap = h0 := by rw [← hh, Bd.state]; rfl
  have N0 := Fr.nil n0
  have K0 := Keep.refl h0 [a1, ea]
  show own_Go p e below (own_E s 0 0 (own_Q7_r22 Z a1 a2 mc ea sz vs h0 n0)) (s₁.setTop (entryFrame m #[.ref a1, .ref a2] 2))
  rw [own_ef7]
  refine own_aloadN X0 hx (hb hby own_d7_0) (q := 1) rfl rfl rfl ?_
  refine own_dup X0 hx (hb hby own_d7_1) (q := 2) rfl rfl ?_
  refine own_getF X0 hx hZ hown (host := "") (Or.inl (hw _ (List.mem_of_getElem? (i := 47) rfl))) (Via.of (hw _ (List.mem_of_getElem? (i := 48) rfl))) e0 F1p (hb hby own_d7_2) (q := 5) rfl (fun T807 X808 e809 => ?_)
  refine own_iconst X808 hx (v := (1 : Int32)) (hb hby own_d7_5) (q := 6) rfl rfl ?_
  refine own_iadd X808 hx (hb hby own_d7_6) (q := 7) rfl ?_
  refine own_putF X808 hx hZ hown (host := "") (Or.inl (hw _ (List.mem_of_getElem? (i := 47) rfl))) (Via.of (hw _ (List.mem_of_getElem? (i := 48) rfl))) e809 F1p E0p (Or.inl (hw _ (List.mem_of_getElem? (i := 27) rfl))) (hw _ (List.mem_of_getElem? (i := 6) rfl)) (ty := .int) (by decide) rfl rfl (hb hby own_d7_7) (q := 10) rfl (fun T810 h813 X811 e812 W814 => ?_)
  have E815 := Exa.wr W814 E0p
  have F816 := Fld.same W814 F1p
  have F817 := Fld.other W814 F2p (Or.inr (slot_ne (C := "java/util/ArrayList") (Or.inl (hw _ (List.mem_of_getElem? (i := 30) rfl))) (Or.inl (hw _ (List.mem_of_getElem? (i := 27) rfl))) (by decide) (t := (.array (.object "java/lang/Object"))) (t' := .int) (by decide) (by decide)))
  have F818 := Fld.other W814 F3p (Or.inr (slot_ne (C := "java/util/ArrayList") (Or.inl (hw _ (List.mem_of_getElem? (i := 50) rfl))) (Or.inl (hw _ (List.mem_of_getElem? (i := 27) rfl))) (by decide) (t := .int) (t' := .int) (by decide) (by decide)))
  have V819 := V4p.other W814 ne_ea_a1
  have E820 := Exa.wr W814 E5p
  have K821 := K0.wr W814 (Or.inl (List.mem_of_getElem? (i := 0) rfl))
  have N822 := Fr.snoc X811 N0 G_a1
  refine own_aloadN X811 hx (hb hby own_d7_10) (q := 11) rfl rfl rfl ?_
  refine own_aloadN X811 hx (hb hby own_d7_11) (q := 12) rfl rfl rfl ?_
  refine own_aloadN X811 hx (hb hby own_d7_12) (q := 13) rfl rfl rfl ?_
  refine own_getF X811 hx hZ hown (host := "") (Or.inl (hw _ (List.mem_of_getElem? (i := 29) rfl))) Via.refl e812 F817 (hb hby own_d7_13) (q := 16) rfl (fun T823 X824 e825 => ?_)
  refine own_aloadN X824 hx (hb hby own_d7_16) (q := 17) rfl rfl rfl ?_
  refine own_getF X824 hx hZ hown (host := "") (Or.inl (hw _ (List.mem_of_getElem? (i := 49) rfl))) Via.refl e825 F818 (hb hby own_d7_17) (q := 20) rfl (fun T826 X827 e828 => ?_)
  refine own_callQ X827 hx hZ hown (hw _ (List.mem_of_getElem? (i := 51) rfl)) (hw _ (List.mem_of_getElem? (i := 52) rfl)) (hw _ (List.mem_of_getElem? (i := 54) rfl)) (hw _ (List.mem_of_getElem? (i := 53) rfl)) (hw _ (List.mem_of_getElem? (i := 7) rfl)) (hw _ (List.mem_of_getElem? (i := 55) rfl)) E815 (by decide) (rm8_r22 l Z a0 hw [] a1 a2 ea sz (mc + (1 : Int32)) vs h813 n0 E815 F816 F817 F818 V819 E820 G_a1 G_ea ne_ea_a1 ne_a2_a1 ne_a2_ea hlen hp) own_pd6 rfl e828 (by rw [hml]; rfl) (argsL := [.ref a2, .ref ea, .int sz]) (st := []) rfl (W := 0) (Nat.le_of_eq rfl) (by decide) (by decide) (by decide) (by decide) (hb hby own_d7_20) (q := 23) rfl (fun v832 T833 L834 X835 hQ836 => ?_)
  obtain ⟨rfl, N837, K838, E840, F841, F842, F843, A844, E845⟩ := hQ836
  have K846 := K821.trans K838 (allS (Or.inl (List.mem_of_getElem? (i := 0) rfl)) (allS (Or.inl (List.mem_of_getElem? (i := 1) rfl)) all0))
  have N839 := Fr.app N822 N837
  show own_Go p e below (own_E s 0 0 (own_Q7_r22 Z a1 a2 mc ea sz vs h0 n0)) (T833.setTop (mkF m 23 #[.val (.ref a1), .val (.ref a2)] []))
  refine own_iconst X835 hx (v := (1 : Int32)) (hb hby own_d7_23) (q := 24) rfl rfl ?_
  refine own_retN X835 hx hlk (t := .boolean) (by simp) Bd.returns (hb hby own_d7_24) ?_ (by decide) (by decide)
  have r : own_f7_r22 a1 a2 mc ea sz vs = (1 : Int32) := by rw [own_f7_r22]
  show own_Q7_r22 Z a1 a2 mc ea sz vs h0 n0 _ T833.heap _
  exact ⟨(by rw [r] <;> rfl), N839, K846, E840, F841, F842, F843, A844, E845⟩
theorem own_ef14 (m : MethodId) (a1 : Addr) : entryFrame m #[.ref a1] 1 = mkF m 0 #[.val (.ref a1)] [] := by first | (simp [entryFrame, mkF, argsToLocals, Value.category]; done) | rfl
theorem own_d14_0 : decode jdk_38_method_9_code 0 = .ok (.aload_n 0, 1) := by decide +kernel
theorem own_d14_1 : decode jdk_38_method_9_code 1 = .ok (.getfield 48, 3) := by decide +kernel
theorem own_d14_4 : decode jdk_38_method_9_code 4 = .ok (.ifCond .ne 7, 3) := by decide +kernel
theorem own_d14_7 : decode jdk_38_method_9_code 7 = .ok (.iconst 1, 1) := by decide +kernel
theorem own_d14_8 : decode jdk_38_method_9_code 8 = .ok (.goto 4, 3) := by decide +kernel
theorem own_d14_11 : decode jdk_38_method_9_code 11 = .ok (.iconst 0, 1) := by decide +kernel
theorem own_d14_12 : decode jdk_38_method_9_code 12 = .ok (.ireturn, 1) := by decide +kernel
def own_f14 (sz : Int32) : Int32 := (if sz = (0 : Int32) then (1 : Int32) else (0 : Int32))
set_option maxRecDepth 65536 in
set_option maxHeartbeats 40000000 in
theorem rm14 (l : Launch) (Z : State) (a0 : Array Value) (hw : ∀ d ∈ tables_1, d.before a0 Z = true) (ws : List Jvm.Cond) (a1 : Addr) (sz : Int32) (h0 : Heap) (F0p : Fld Z h0 a1 "java/util/ArrayList" "size" "I" (.int sz)) :
    MetFree l (⟨"java/util/ArrayList", "isEmpty", "()Z"⟩ : MethodName) (head1 (Jvm.Cond.code (⟨"java/util/ArrayList", "isEmpty", "()Z"⟩ : MethodName) jdk_38_method_9_code 1 (some .boolean) :: ws) ({ frames := 0, cells := 0, slots := 0, locals := 0 } : Room)) (fun a U => a = #[.ref a1] ∧ Z.Warmed39 U.vm ∧ U.heap = h0) (fun _ _ _ _ _ => True) (fun _ U o U' => ∃ v L, o = .returned v ∧ own_P (.int (own_f14 sz)) h0 v U'.heap L ∧ FrameEnd U o U' L ({ frames := 0, cells := 0, slots := 0, locals := 0 } : Room).cells ({ frames := 0, cells := 0, slots := 0, locals := 0 } : Room).slots) := by
  refine MetFree.of_bodySF (plainFor_of_name own_pn8) hisR ?_
  intro p e s m args below meth c s₁ Bd hml0 hP hK
  obtain ⟨rfl, hZ, hh⟩ := hP
  have hx := Bd.exec
  have hby := Bd.bytes
  have hml : c.maxLocals = 1 := hml0
  have hown : s.vm.findClass "java/util/ArrayList" = some m.cls := findClass_of_methodNamed Bd.named
  have hnm := (name_of_methodNamed Bd.named Bd.method).1
  have hlk : meth.locks = false := BodyLoose.notSynchronized Bd
  have X0 : Stand p l e ({ frames := 0, cells := 0, slots := 0, locals := 0 } : Room) s m #[.ref a1] below meth c s₁ [] 0 0 := Stand.of_body Bd
  have e0 : s₁.heap = h0 := by rw [← hh, Bd.state]; rfl
  show own_Go p e below (own_E s 0 0 (own_P (.int (own_f14 sz)) h0)) (s₁.setTop (entryFrame m #[.ref a1] 1))
  rw [own_ef14]
  refine own_aloadN X0 hx (hb hby own_d14_0) (q := 1) rfl rfl rfl ?_
  refine own_getF X0 hx hZ hown (host := "") (Or.inl (hw _ (List.mem_of_getElem? (i := 49) rfl))) Via.refl e0 F0p (hb hby own_d14_1) (q := 4) rfl (fun T847 X848 e849 => ?_)
  refine own_if0M X848 hx (hb hby own_d14_4) (cd := .ne) (x := sz) (pt := 11) (q := 7) (by decide) (by decide) rfl rfl (fun (c1 : ¬ (sz = (0 : Int32))) => ?_) (fun (c1 : sz = (0 : Int32)) => ?_)
  · refine own_iconst X848 hx (v := (0 : Int32)) (hb hby own_d14_11) (q := 12) rfl rfl ?_
    refine own_retN X848 hx hlk (t := .boolean) (by simp) Bd.returns (hb hby own_d14_12) ?_ (by decide) (by decide)
    have r : own_f14 sz = (0 : Int32) := by rw [own_f14, if_neg c1]
    exact ⟨by rw [r] <;> rfl, e849, rfl⟩
  · refine own_iconst X848 hx (v := (1 : Int32)) (hb hby own_d14_7) (q := 8) rfl rfl ?_
    refine own_goto X848 hx (hb hby own_d14_8) (q := 12) (by decide) (by decide) ?_
    refine own_retN X848 hx hlk (t := .boolean) (by simp) Bd.returns (hb hby own_d14_12) ?_ (by decide) (by decide)
    have r : own_f14 sz = (1 : Int32) := by rw [own_f14, if_pos c1]
    exact ⟨by rw [r] <;> rfl, e849, rfl⟩
theorem own_ef15 (m : MethodId) (a1 : Addr) : entryFrame m #[.ref a1] 1 = mkF m 0 #[.val (.ref a1)] [] := by first | (simp [entryFrame, mkF, argsToLocals, Value.category]; done) | rfl
theorem own_d15_0 : decode jdk_38_method_16_code 0 = .ok (.aload_n 0, 1) := by decide +kernel
theorem own_d15_1 : decode jdk_38_method_16_code 1 = .ok (.getfield 9, 3) := by decide +kernel
theorem own_d15_4 : decode jdk_38_method_16_code 4 = .ok (.aload_n 0, 1) := by decide +kernel
theorem own_d15_5 : decode jdk_38_method_16_code 5 = .ok (.getfield 48, 3) := by decide +kernel
theorem own_d15_8 : decode jdk_38_method_16_code 8 = .ok (.invokestatic 66, 3) := by decide +kernel
theorem own_d15_11 : decode jdk_38_method_16_code 11 = .ok (.areturn, 1) := by decide +kernel
def own_Q15 (Z : State) (a1 : Addr) (ea : Addr) (sz : Int32) (vs : List Value) (h0 : Heap) (n0 : Nat) (v : Option Value) (h : Heap) (L : List Loc) : Prop := ∃ ra0 : Addr, v = some (.ref ra0) ∧ Fr n0 L ∧ Keep h0 h [] ∧ h0.size ≤ ra0 ∧ own_R Z h ra0 (own_cp vs sz.toNatClampNeg)
set_option maxRecDepth 65536 in
set_option maxHeartbeats 40000000 in
theorem rm15 (l : Launch) (Z : State) (a0 : Array Value) (hw : ∀ d ∈ tables_1, d.before a0 Z = true) (ws : List Jvm.Cond) (a1 : Addr) (ea : Addr) (sz : Int32) (vs : List Value) (h0 : Heap) (n0 : Nat) (Z0 : n0 ≤ h0.size) (E0p : Exa Z h0 a1 "java/util/ArrayList") (F1p : Fld Z h0 a1 "java/util/ArrayList" "elementData" "[Ljava/lang/Object;" (.ref ea)) (F2p : Fld Z h0 a1 "java/util/ArrayList" "size" "I" (.int sz)) (V3p : own_R Z h0 ea vs) (hmir : Jvm.ShelfD.MirrorMade Z "[Ljava/lang/Object;") (hel : own_El Z h0 vs) (hn : 0 ≤ sz.toInt ∧ sz.toNatClampNeg ≤ 16) (hvs : vs.length ≤ 1000) :
    MetFree l (⟨"java/util/ArrayList", "toArray", "()[Ljava/lang/Object;"⟩ : MethodName) (head1 (Jvm.Cond.code (⟨"java/util/ArrayList", "toArray", "()[Ljava/lang/Object;"⟩ : MethodName) jdk_38_method_16_code 1 (some (.array (.object "java/lang/Object"))) :: ws) ({ frames := 4, cells := 1, slots := 16, locals := 77 } : Room)) (fun a U => a = #[.ref a1] ∧ Z.Warmed39 U.vm ∧ U.heap = h0) (fun _ _ _ _ _ => True) (fun _ U o U' => ∃ v L, o = .returned v ∧ own_Q15 Z a1 ea sz vs h0 n0 v U'.heap L ∧ FrameEnd U o U' L ({ frames := 4, cells := 1, slots := 16, locals := 77 } : Room).cells ({ frames := 4, cells := 1, slots := 16, locals := 77 } : Room).slots) := by
  refine MetFree.of_bodySF (plainFor_of_name own_pn8) hisR ?_
  intro p e s m args below meth c s₁ Bd hml0 hP hK
  obtain ⟨rfl, hZ, hh⟩ := hP
  have hx := Bd.exec
  have hby := Bd.bytes
  have hml : c.maxLocals = 1 := hml0
  have hown : s.vm.findClass "java/util/ArrayList" = some m.cls := findClass_of_methodNamed Bd.named
  have hnm := (name_of_methodNamed Bd.named Bd.method).1
  have hlk : meth.locks = false := BodyLoose.notSynchronized Bd
  have X0 : Stand p l e ({ frames := 4, cells := 1, slots := 16, locals := 77 } : Room) s m #[.ref a1] below meth c s₁ [] 0 0 := Stand.of_body Bd
  have e0 : s₁.heap = h0 := by rw [← hh, Bd.state]; rfl
  have N0 := Fr.nil n0
  have K0 := Keep.refl h0 []
  show own_Go p e below (own_E s 1 16 (own_Q15 Z a1 ea sz vs h0 n0)) (s₁.setTop (entryFrame m #[.ref a1] 1))
  rw [own_ef15]
  refine own_aloadN X0 hx (hb hby own_d15_0) (q := 1) rfl rfl rfl ?_
  refine own_getF X0 hx hZ hown (host := "") (Or.inl (hw _ (List.mem_of_getElem? (i := 29) rfl))) Via.refl e0 F1p (hb hby own_d15_1) (q := 4) rfl (fun T850 X851 e852 => ?_)
  refine own_aloadN X851 hx (hb hby own_d15_4) (q := 5) rfl rfl rfl ?_
  refine own_getF X851 hx hZ hown (host := "") (Or.inl (hw _ (List.mem_of_getElem? (i := 49) rfl))) Via.refl e852 F2p (hb hby own_d15_5) (q := 8) rfl (fun T853 X854 e855 => ?_)
  refine own_copy2c X854 hx hZ hown hw (hw _ (List.mem_of_getElem? (i := 104) rfl)) hmir (cap := 16) e855 V3p hel hn.1 hn.2 (by decide) (by omega) (by rw [hml]; rfl) (W := 0) (Nat.le_of_eq rfl) (by decide) (by decide) (by decide) (by decide) (hb hby own_d15_8) (q := 11) rfl (fun T862 h865 a866 X863 e864 g867 E868 A869 => ?_)
  have O870 : h0.size ≤ a866 := by rw [g867]; exact K0.1
  have E871 := Exa.ext E868 E0p
  have F872 := Fld.ext E868 F1p
  have F873 := Fld.ext E868 F2p
  have V874 := V3p.ext E868
  have K875 := K0.ext E868
  have ne876 : a1 ≠ a866 := by rw [g867]; exact Nat.ne_of_lt E0p.lt
  have ne877 : ea ≠ a866 := by rw [g867]; exact Nat.ne_of_lt V3p.lt
  have Z878 : n0 ≤ a866 := by rw [g867]; exact Z0
  have Z879 : n0 ≤ h865.size := Nat.le_trans Z0 E868.1
  replace A869 : own_R Z h865 a866 (own_cp vs sz.toNatClampNeg) := A869
  refine own_retA X863 hx hlk rfl rfl rfl Bd.returns (hb hby own_d15_11) ?_ (by decide) (by decide)
  show own_Q15 Z a1 ea sz vs h0 n0 _ T862.heap _
  rw [e864]
  exact ⟨a866, rfl, N0, K875, O870, A869⟩
theorem own_noInst {Z : State} {a0 : Array Value} {K0 : String} {n : Nat} (w : (Jvm.Cond.superclass "java/util/ArrayList" "java/util/AbstractList").before a0 Z = true) (w2 : (Jvm.Cond.superclass "java/util/AbstractList" "java/util/AbstractCollection").before a0 Z = true) (w3 : (Jvm.Cond.superclass "java/util/AbstractCollection" "java/lang/Object").before a0 Z = true) (wo : (Jvm.Cond.noSuperclass "java/lang/Object").before a0 Z = true) (wi : (Jvm.Cond.instantiable K0 n).before a0 Z = true) (h1 : "java/util/ArrayList" ≠ K0) (h2 : "java/util/AbstractList" ≠ K0) (h3 : "java/util/AbstractCollection" ≠ K0) (h4 : "java/lang/Object" ≠ K0) :
    ∃ c t, Z.vm.findClass "java/util/ArrayList" = some c ∧ Z.vm.findClass K0 = some t ∧ Z.vm.assignable c t = false := by
  obtain ⟨t, kt, g1, g2, g3, g4, -⟩ := Cond.instantiable_spec wi
  obtain ⟨c, h0⟩ := found_sup w
  obtain ⟨p, k, kp, q1, q2, q3, q4, q5, q6, q7⟩ := Cond.superclass_spec h0 w
  obtain ⟨p2, k2, kp2, u1, u2, u3, u4, u5, u6, u7⟩ := Cond.superclass_spec q1 w2
  obtain ⟨p3, k3, kp3, v1, v2, v3, v4, v5, v6, v7⟩ := Cond.superclass_spec u1 w3
  obtain ⟨c', k', r1, r2, r3, -, -⟩ := Cond.noSuperclass_spec wo
  cases r1.symm.trans v1
  have ne1 := ids_ne h0 g1 h1
  have ne2 := ids_ne q1 g1 h2
  have ne3 := ids_ne u1 g1 h3
  have ne4 := ids_ne v1 g1 h4
  have hi : kt.isInterface = false := by simp only [Bool.or_eq_false_iff] at g4; exact g4.1
  refine ⟨c, t, h0, g1, ?_⟩
  have sub : Z.vm.isSubclass c t = false := by
    have : ∀ fuel, Z.vm.isSubclassAux fuel c t = false := fun fuel => by
      rcases fuel with _ | _ | _ | _ | f
      · rfl
      · simp [Vm.isSubclassAux, ne1, q2, q4]
      · simp [Vm.isSubclassAux, ne1, ne2, q2, q4, u2, u4]
      · simp [Vm.isSubclassAux, ne1, ne2, ne3, q2, q4, u2, u4, v2, v4]
      · simp [Vm.isSubclassAux, ne1, ne2, ne3, ne4, q2, q4, u2, u4, v2, v4, r2, r3]
    simp [Vm.isSubclass, this]
  show Z.vm.assignableAux (255 + 1) c t = false
  simp [Vm.assignableAux, ne1, q2, g2, q5, g3, hi, sub]
theorem own_pd7 : parseMethodDescriptor "()Z" = some ⟨[], some .boolean⟩ := by decide +kernel
theorem own_pd8 : parseMethodDescriptor "([Ljava/lang/Object;)Ljava/util/List;" = some ⟨[(.array (.object "java/lang/Object"))], some (.object "java/util/List")⟩ := by decide +kernel
theorem own_pn27 : plainName "java/util/ImmutableCollections" = true := by first | (simp [plainName, overriddenIn]; done) | decide +kernel
theorem own_ef13 (m : MethodId) (a1 : Addr) : entryFrame m #[.ref a1] 2 = mkF m 0 #[.val (.ref a1), .unset] [] := by first | (simp [entryFrame, mkF, argsToLocals, Value.category]; done) | rfl
theorem own_d13_0 : decode jdk_56_method_3_code 0 = .ok (.aload_n 0, 1) := by decide +kernel
theorem own_d13_1 : decode jdk_56_method_3_code 1 = .ok (.instanceof 10, 3) := by decide +kernel
theorem own_d13_4 : decode jdk_56_method_3_code 4 = .ok (.ifCond .ne 22, 3) := by decide +kernel
theorem own_d13_7 : decode jdk_56_method_3_code 7 = .ok (.aload_n 0, 1) := by decide +kernel
theorem own_d13_8 : decode jdk_56_method_3_code 8 = .ok (.instanceof 12, 3) := by decide +kernel
theorem own_d13_11 : decode jdk_56_method_3_code 11 = .ok (.ifCond .eq 20, 3) := by decide +kernel
theorem own_d13_31 : decode jdk_56_method_3_code 31 = .ok (.aload_n 0, 1) := by decide +kernel
theorem own_d13_32 : decode jdk_56_method_3_code 32 = .ok (.invokeinterface 20 1, 5) := by decide +kernel
theorem own_d13_37 : decode jdk_56_method_3_code 37 = .ok (.ifCond .eq 7, 3) := by decide +kernel
theorem own_d13_44 : decode jdk_56_method_3_code 44 = .ok (.aload_n 0, 1) := by decide +kernel
theorem own_d13_45 : decode jdk_56_method_3_code 45 = .ok (.invokeinterface 30 1, 5) := by decide +kernel
theorem own_d13_50 : decode jdk_56_method_3_code 50 = .ok (.invokestatic 34, 3) := by decide +kernel
theorem own_d13_53 : decode jdk_56_method_3_code 53 = .ok (.areturn, 1) := by decide +kernel
def own_Q13 (Z : State) (a1 : Addr) (ea : Addr) (sz : Int32) (vs : List Value) (em : Addr) (h0 : Heap) (n0 : Nat) (v : Option Value) (h : Heap) (L : List Loc) : Prop := ∃ ra0 : Addr, v = some (.ref ra0) ∧ Fr n0 L ∧ Keep h0 h [] ∧ own_I Z h em ra0 (own_cp vs sz.toNatClampNeg)
set_option maxRecDepth 65536 in
set_option maxHeartbeats 40000000 in
theorem rm13 (l : Launch) (Z : State) (a0 : Array Value) (hw : ∀ d ∈ tables_1, d.before a0 Z = true) (ws : List Jvm.Cond) (a1 : Addr) (ea : Addr) (sz : Int32) (vs : List Value) (em : Addr) (h0 : Heap) (n0 : Nat) (Z0 : n0 ≤ h0.size) (E0p : Exa Z h0 a1 "java/util/ArrayList") (F1p : Fld Z h0 a1 "java/util/ArrayList" "elementData" "[Ljava/lang/Object;" (.ref ea)) (F2p : Fld Z h0 a1 "java/util/ArrayList" "size" "I" (.int sz)) (V3p : own_R Z h0 ea vs) (L4p : own_Ex Z h0 (own_cp vs sz.toNatClampNeg)) (S5p : Sta Z h0 "java/util/ImmutableCollections" "EMPTY" "Ljava/lang/Object;" (.ref em)) (hmir : Jvm.ShelfD.MirrorMade Z "[Ljava/lang/Object;") (hel : own_El Z h0 vs) (hn : 0 ≤ sz.toInt ∧ sz.toNatClampNeg ≤ 16) (hvs : vs.length ≤ 1000) (hz : ¬ sz = 0) (hcp : 1 ≤ (own_cp vs sz.toNatClampNeg).length ∧ (own_cp vs sz.toNatClampNeg).length ≤ 16) (hne : (own_cp vs sz.toNatClampNeg).length = 2 → (own_cp vs sz.toNatClampNeg)[1]? ≠ some (.ref em)) :
    MetFree l (⟨"java/util/ImmutableCollections", "listCopy", "(Ljava/util/Collection;)Ljava/util/List;"⟩ : MethodName) (head1 (Jvm.Cond.code (⟨"java/util/ImmutableCollections", "listCopy", "(Ljava/util/Collection;)Ljava/util/List;"⟩ : MethodName) jdk_56_method_3_code 2 (some (.object "java/util/List")) :: ws) ({ frames := 7, cells := 3, slots := 34, locals := 103 } : Room)) (fun a U => a = #[.ref a1] ∧ Z.Warmed39 U.vm ∧ U.heap = h0) (fun _ _ _ _ _ => True) (fun _ U o U' => ∃ v L, o = .returned v ∧ own_Q13 Z a1 ea sz vs em h0 n0 v U'.heap L ∧ FrameEnd U o U' L ({ frames := 7, cells := 3, slots := 34, locals := 103 } : Room).cells ({ frames := 7, cells := 3, slots := 34, locals := 103 } : Room).slots) := by
  refine MetFree.of_bodySF (plainFor_of_name own_pn27) hisR ?_
  intro p e s m args below meth c s₁ Bd hml0 hP hK
  obtain ⟨rfl, hZ, hh⟩ := hP
  have hx := Bd.exec
  have hby := Bd.bytes
  have hml : c.maxLocals = 2 := hml0
  have hown : s.vm.findClass "java/util/ImmutableCollections" = some m.cls := findClass_of_methodNamed Bd.named
  have hnm := (name_of_methodNamed Bd.named Bd.method).1
  have hlk : meth.locks = false := BodyLoose.notSynchronized Bd
  have X0 : Stand p l e ({ frames := 7, cells := 3, slots := 34, locals := 103 } : Room) s m #[.ref a1] below meth c s₁ [] 0 0 := Stand.of_body Bd
  have e0 : s₁.heap = h0 := by rw [← hh, Bd.state]; rfl
  have N0 := Fr.nil n0
  have K0 := Keep.refl h0 []
  show own_Go p e below (own_E s 3 34 (own_Q13 Z a1 ea sz vs em h0 n0)) (s₁.setTop (entryFrame m #[.ref a1] 2))
  rw [own_ef13]
  refine own_aloadN X0 hx (hb hby own_d13_0) (q := 1) rfl rfl rfl ?_
  refine own_instN X0 hx hZ hown (hw _ (List.mem_of_getElem? (i := 81) rfl)) e0 E0p (own_noInst (hw _ (List.mem_of_getElem? (i := 82) rfl)) (hw _ (List.mem_of_getElem? (i := 83) rfl)) (hw _ (List.mem_of_getElem? (i := 84) rfl)) (hw _ (List.mem_of_getElem? (i := 85) rfl)) (hw _ (List.mem_of_getElem? (i := 206) rfl)) (by decide) (by decide) (by decide) (by decide)) (hb hby own_d13_1) (q := 4) rfl (fun T880 X881 e882 => ?_)
  refine own_if0M X881 hx (hb hby own_d13_4) (cd := .ne) (x := (0 : Int32)) (pt := 26) (q := 7) (by decide) (by decide) rfl rfl (fun h => False.elim (h ((by decide) : (0 : Int32) = (0 : Int32)))) (fun _ => ?_)
  refine own_aloadN X881 hx (hb hby own_d13_7) (q := 8) rfl rfl rfl ?_
  refine own_instN X881 hx hZ hown (hw _ (List.mem_of_getElem? (i := 86) rfl)) e882 E0p (own_noInst (hw _ (List.mem_of_getElem? (i := 82) rfl)) (hw _ (List.mem_of_getElem? (i := 83) rfl)) (hw _ (List.mem_of_getElem? (i := 84) rfl)) (hw _ (List.mem_of_getElem? (i := 85) rfl)) (hw _ (List.mem_of_getElem? (i := 137) rfl)) (by decide) (by decide) (by decide) (by decide)) (hb hby own_d13_8) (q := 11) rfl (fun T883 X884 e885 => ?_)
  refine own_if0P X884 hx (hb hby own_d13_11) (cd := .eq) (x := (0 : Int32)) (pt := 31) (q := 14) (by decide) (by decide) rfl rfl (fun _ => ?_) (fun h => False.elim (h ((by decide) : (0 : Int32) = (0 : Int32))))
  refine own_aloadN X884 hx (hb hby own_d13_31) (q := 32) rfl rfl rfl ?_
  refine own_callIP X884 hx hZ hown (hw _ (List.mem_of_getElem? (i := 87) rfl)) (hw _ (List.mem_of_getElem? (i := 88) rfl)) (hw _ (List.mem_of_getElem? (i := 89) rfl)) rfl (hw _ (List.mem_of_getElem? (i := 90) rfl)) (hw _ (List.mem_of_getElem? (i := 91) rfl)) (hw _ (List.mem_of_getElem? (i := 92) rfl)) (hw _ (List.mem_of_getElem? (i := 93) rfl)) (hw _ (List.mem_of_getElem? (i := 94) rfl)) (hw _ (List.mem_of_getElem? (i := 7) rfl)) (hw _ (List.mem_of_getElem? (i := 95) rfl)) E0p (by decide) (rm14 l Z a0 hw [] a1 sz h0 F2p) own_pd7 rfl e885 (by rw [hml]; rfl) (argsL := []) (st := []) rfl (W := 0) (Nat.le_of_eq rfl) (by decide) (by decide) (by decide) (by decide) (hb hby own_d13_32) (q := 37) rfl (fun T886 X887 e888 => ?_)
  refine own_if0P X887 hx (hb hby own_d13_37) (cd := .eq) (x := own_f14 sz) (pt := 44) (q := 40) (by decide) (by decide) rfl rfl (fun _ => ?_) (fun h => False.elim (h ((by unfold own_f14; rw [if_neg hz]) : (own_f14 sz) = (0 : Int32))))
  refine own_aloadN X887 hx (hb hby own_d13_44) (q := 45) rfl rfl rfl ?_
  refine own_callI X887 hx hZ hown (hw _ (List.mem_of_getElem? (i := 96) rfl)) (hw _ (List.mem_of_getElem? (i := 97) rfl)) (hw _ (List.mem_of_getElem? (i := 98) rfl)) rfl (hw _ (List.mem_of_getElem? (i := 99) rfl)) (hw _ (List.mem_of_getElem? (i := 100) rfl)) (hw _ (List.mem_of_getElem? (i := 101) rfl)) (hw _ (List.mem_of_getElem? (i := 102) rfl)) (hw _ (List.mem_of_getElem? (i := 94) rfl)) (hw _ (List.mem_of_getElem? (i := 7) rfl)) (hw _ (List.mem_of_getElem? (i := 103) rfl)) E0p (by decide) (rm15 l Z a0 hw [] a1 ea sz vs h0 n0 Z0 E0p F1p F2p V3p hmir hel hn hvs) own_pd5 rfl e888 (by rw [hml]; rfl) (argsL := []) (st := []) rfl (W := 0) (Nat.le_of_eq rfl) (by decide) (by decide) (by decide) (by decide) (hb hby own_d13_45) (q := 50) rfl (fun v892 T893 L894 X895 hQ896 => ?_)
  obtain ⟨a900, rfl, N897, K898, O901, A902⟩ := hQ896
  have E903 := E0p.keep K898
  have F904 := F1p.keep K898 nin0
  have F905 := F2p.keep K898 nin0
  have V906 := V3p.keep K898 nin0
  have L907 := L4p.keep K898
  have S908 := own_staKeep S5p K898 all0
  have Z909 : n0 ≤ T893.heap.size := Nat.le_trans Z0 K898.1
  have K910 := K0.trans K898 all0
  have N899 := Fr.app N0 N897
  have ne911 : a1 ≠ a900 := Nat.ne_of_lt (Nat.lt_of_lt_of_le E0p.lt O901)
  have ne912 : ea ≠ a900 := Nat.ne_of_lt (Nat.lt_of_lt_of_le V3p.lt O901)
  have Z913 : n0 ≤ a900 := Nat.le_trans Z0 O901
  have O914 : h0.size ≤ a900 := Nat.le_trans K0.1 O901
  show own_Go p e below (own_E s 3 34 (own_Q13 Z a1 ea sz vs em h0 n0)) (T893.setTop (mkF m 50 #[.val (.ref a1), .unset] [.ref a900]))
  refine own_ofArr X895 hx hZ hown hw (hw _ (List.mem_of_getElem? (i := 126) rfl)) (k := 16) rfl A902 (fun v hv => by obtain ⟨b, e, E⟩ := L907 v hv; exact ⟨b, e, Ins.of_exa E (hw _ (List.mem_of_getElem? (i := 72) rfl))⟩) hcp.1 hcp.2 (by decide) S908 hne (by rw [hml]; rfl) (W := 0) (Nat.le_of_eq rfl) (by decide) (by decide) (by decide) (by decide) (hb hby own_d13_50) (q := 53) rfl (fun T921 h924 a925 X922 e923 E926 I927 => ?_)
  have E929 := Exa.ext E926 E903
  have F930 := Fld.ext E926 F904
  have F931 := Fld.ext E926 F905
  have V932 := V906.ext E926
  have L933 := L907.ext E926
  have S934 := Sta.ext E926 S908
  have A935 := A902.ext E926
  have K936 := K910.ext E926
  have Z937 : n0 ≤ h924.size := Nat.le_trans Z909 E926.1
  refine own_retA X922 hx hlk rfl rfl rfl Bd.returns (hb hby own_d13_53) ?_ (by decide) (by decide)
  show own_Q13 Z a1 ea sz vs em h0 n0 _ T921.heap _
  rw [e923]
  exact ⟨a925, rfl, N899, K936, I927⟩
theorem own_pd9 : parseMethodDescriptor "(Ljava/util/Collection;)Ljava/util/List;" = some ⟨[(.object "java/util/Collection")], some (.object "java/util/List")⟩ := by decide +kernel
theorem own_pn29 : plainName "java/util/List" = true := by first | (simp [plainName, overriddenIn]; done) | decide +kernel
theorem own_ef12 (m : MethodId) (a1 : Addr) : entryFrame m #[.ref a1] 1 = mkF m 0 #[.val (.ref a1)] [] := by first | (simp [entryFrame, mkF, argsToLocals, Value.category]; done) | rfl
theorem own_d12_0 : decode jdk_40_method_48_code 0 = .ok (.aload_n 0, 1) := by decide +kernel
theorem own_d12_1 : decode jdk_40_method_48_code 1 = .ok (.invokestatic 112, 3) := by decide +kernel
theorem own_d12_4 : decode jdk_40_method_48_code 4 = .ok (.areturn, 1) := by decide +kernel
def own_Q12 (Z : State) (a1 : Addr) (ea : Addr) (sz : Int32) (vs : List Value) (em : Addr) (h0 : Heap) (n0 : Nat) (v : Option Value) (h : Heap) (L : List Loc) : Prop := ∃ ra0 : Addr, v = some (.ref ra0) ∧ Fr n0 L ∧ Keep h0 h [] ∧ own_I Z h em ra0 (own_cp vs sz.toNatClampNeg)
set_option maxRecDepth 65536 in
set_option maxHeartbeats 40000000 in
theorem rm12 (l : Launch) (Z : State) (a0 : Array Value) (hw : ∀ d ∈ tables_1, d.before a0 Z = true) (ws : List Jvm.Cond) (a1 : Addr) (ea : Addr) (sz : Int32) (vs : List Value) (em : Addr) (h0 : Heap) (n0 : Nat) (Z0 : n0 ≤ h0.size) (E0p : Exa Z h0 a1 "java/util/ArrayList") (F1p : Fld Z h0 a1 "java/util/ArrayList" "elementData" "[Ljava/lang/Object;" (.ref ea)) (F2p : Fld Z h0 a1 "java/util/ArrayList" "size" "I" (.int sz)) (V3p : own_R Z h0 ea vs) (L4p : own_Ex Z h0 (own_cp vs sz.toNatClampNeg)) (S5p : Sta Z h0 "java/util/ImmutableCollections" "EMPTY" "Ljava/lang/Object;" (.ref em)) (hmir : Jvm.ShelfD.MirrorMade Z "[Ljava/lang/Object;") (hel : own_El Z h0 vs) (hn : 0 ≤ sz.toInt ∧ sz.toNatClampNeg ≤ 16) (hvs : vs.length ≤ 1000) (hz : ¬ sz = 0) (hcp : 1 ≤ (own_cp vs sz.toNatClampNeg).length ∧ (own_cp vs sz.toNatClampNeg).length ≤ 16) (hne : (own_cp vs sz.toNatClampNeg).length = 2 → (own_cp vs sz.toNatClampNeg)[1]? ≠ some (.ref em)) :
    MetFree l (⟨"java/util/List", "copyOf", "(Ljava/util/Collection;)Ljava/util/List;"⟩ : MethodName) (head1 (Jvm.Cond.code (⟨"java/util/List", "copyOf", "(Ljava/util/Collection;)Ljava/util/List;"⟩ : MethodName) jdk_40_method_48_code 1 (some (.object "java/util/List")) :: ws) ({ frames := 8, cells := 3, slots := 34, locals := 116 } : Room)) (fun a U => a = #[.ref a1] ∧ Z.Warmed39 U.vm ∧ U.heap = h0) (fun _ _ _ _ _ => True) (fun _ U o U' => ∃ v L, o = .returned v ∧ own_Q12 Z a1 ea sz vs em h0 n0 v U'.heap L ∧ FrameEnd U o U' L ({ frames := 8, cells := 3, slots := 34, locals := 116 } : Room).cells ({ frames := 8, cells := 3, slots := 34, locals := 116 } : Room).slots) := by
  refine MetFree.of_bodySF (plainFor_of_name own_pn29) hisR ?_
  intro p e s m args below meth c s₁ Bd hml0 hP hK
  obtain ⟨rfl, hZ, hh⟩ := hP
  have hx := Bd.exec
  have hby := Bd.bytes
  have hml : c.maxLocals = 1 := hml0
  have hown : s.vm.findClass "java/util/List" = some m.cls := findClass_of_methodNamed Bd.named
  have hnm := (name_of_methodNamed Bd.named Bd.method).1
  have hlk : meth.locks = false := BodyLoose.notSynchronized Bd
  have X0 : Stand p l e ({ frames := 8, cells := 3, slots := 34, locals := 116 } : Room) s m #[.ref a1] below meth c s₁ [] 0 0 := Stand.of_body Bd
  have e0 : s₁.heap = h0 := by rw [← hh, Bd.state]; rfl
  have N0 := Fr.nil n0
  have K0 := Keep.refl h0 []
  show own_Go p e below (own_E s 3 34 (own_Q12 Z a1 ea sz vs em h0 n0)) (s₁.setTop (entryFrame m #[.ref a1] 1))
  rw [own_ef12]
  refine own_aloadN X0 hx (hb hby own_d12_0) (q := 1) rfl rfl rfl ?_
  refine own_callS X0 hx hZ hown (hw _ (List.mem_of_getElem? (i := 77) rfl)) (hw _ (List.mem_of_getElem? (i := 78) rfl)) (hw _ (List.mem_of_getElem? (i := 79) rfl)) (hw _ (List.mem_of_getElem? (i := 80) rfl)) (by decide) (rm13 l Z a0 hw [] a1 ea sz vs em h0 n0 Z0 E0p F1p F2p V3p L4p S5p hmir hel hn hvs hz hcp hne) own_pd9 rfl e0 (by rw [hml]; rfl) (argsL := [.ref a1]) (st := []) rfl (W := 0) (Nat.le_of_eq rfl) (by decide) (by decide) (by decide) (by decide) (hb hby own_d12_1) (q := 4) rfl (fun v944 T945 L946 X947 hQ948 => ?_)
  obtain ⟨a952, rfl, N949, K950, I954⟩ := hQ948
  have E955 := E0p.keep K950
  have F956 := F1p.keep K950 nin0
  have F957 := F2p.keep K950 nin0
  have V958 := V3p.keep K950 nin0
  have L959 := L4p.keep K950
  have S960 := own_staKeep S5p K950 all0
  have Z961 : n0 ≤ T945.heap.size := Nat.le_trans Z0 K950.1
  have K962 := K0.trans K950 all0
  have N951 := Fr.app N0 N949
  show own_Go p e below (own_E s 3 34 (own_Q12 Z a1 ea sz vs em h0 n0)) (T945.setTop (mkF m 4 #[.val (.ref a1)] [.ref a952]))
  refine own_retA X947 hx hlk rfl rfl rfl Bd.returns (hb hby own_d12_4) ?_ (by decide) (by decide)
  show own_Q12 Z a1 ea sz vs em h0 n0 _ T945.heap _
  exact ⟨a952, rfl, N951, K962, I954⟩
def own_Ca (Z : State) (h : Heap) (cv : List Value) : Prop := ∀ i, i < 256 → ∃ b, cv[i]? = some (.ref b) ∧ Exa Z h b "java/lang/Integer" ∧ Fld Z h b "java/lang/Integer" "value" "I" (.int (Int32.ofNat i - 128))
theorem own_ca {Z : State} {h : Heap} {cv : List Value} {x : Int32} (F : own_Ca Z h cv) (h1 : ¬ x < (-128 : Int32)) (h2 : ¬ (127 : Int32) < x) : ¬ (x + (128 : Int32)) < 0 ∧ ∃ b, cv[(x + (128 : Int32)).toNatClampNeg]? = some (.ref b) ∧ Exa Z h b "java/lang/Integer" ∧ Fld Z h b "java/lang/Integer" "value" "I" (.int x) := by
  simp only [Int32.lt_iff_toInt_lt, Int32.reduceToInt] at h1 h2 ⊢
  have a := c_iadd x 128; have r := rng32 (x + 128)
  simp only [Int32.reduceToInt] at a
  have e : (x + 128).toInt = x.toInt + 128 := by omega
  refine ⟨by omega, ?_⟩
  have en : (x + (128 : Int32)).toNatClampNeg = (x.toInt + 128).toNat := by show (x + 128).toInt.toNat = _; rw [e]
  obtain ⟨b, q1, q2, q3⟩ := F (x.toInt + 128).toNat (by omega)
  refine ⟨b, by rw [en]; exact q1, q2, ?_⟩
  have ex : Int32.ofNat (x.toInt + 128).toNat - 128 = x := by
    have o : (Int32.ofNat (x.toInt + 128).toNat).toInt = x.toInt + 128 := by rw [Int32.toInt_ofNat_of_lt (by omega)]; omega
    have a2 := c_isub (Int32.ofNat (x.toInt + 128).toNat) 128; have r2 := rng32 (Int32.ofNat (x.toInt + 128).toNat - 128)
    simp only [Int32.reduceToInt, o] at a2
    rw [← Int32.toInt_inj]; omega
  rw [ex] at q3; exact q3
theorem own_Ca.ext {Z : State} {h h' : Heap} {cv : List Value} (F : own_Ca Z h cv) (E : Ext h h') : own_Ca Z h' cv := fun i hi => by
  obtain ⟨b, e1, e2, e3⟩ := F i hi; exact ⟨b, e1, Exa.ext E e2, Fld.ext E e3⟩
theorem own_Ca.keep {Z : State} {h h' : Heap} {cv : List Value} {ws : List Addr} (F : own_Ca Z h cv) (K : Keep h h' ws) (q : ∀ a ∈ ws, ∀ b, Exa Z h b "java/lang/Integer" → b ≠ a) : own_Ca Z h' cv := fun i hi => by
  obtain ⟨b, e1, e2, e3⟩ := F i hi; exact ⟨b, e1, e2.keep K, e3.keep K (fun hm => q b hm b e2 rfl)⟩
theorem own_pd10 : parseMethodDescriptor "(I)V" = some ⟨[.int], none⟩ := by decide +kernel
theorem own_ef6 (m : MethodId) (p1 : Int32) : entryFrame m #[.int p1] 1 = mkF m 0 #[.val (.int p1)] [] := by first | (simp [entryFrame, mkF, argsToLocals, Value.category]; done) | rfl
theorem own_d6_0 : decode jdk_33_method_22_code 0 = .ok (.iload_n 0, 1) := by decide +kernel
theorem own_d6_1 : decode jdk_33_method_22_code 1 = .ok (.bipush (-128), 2) := by decide +kernel
theorem own_d6_3 : decode jdk_33_method_22_code 3 = .ok (.if_icmp .lt 20, 3) := by decide +kernel
theorem own_d6_6 : decode jdk_33_method_22_code 6 = .ok (.iload_n 0, 1) := by decide +kernel
theorem own_d6_7 : decode jdk_33_method_22_code 7 = .ok (.getstatic 191, 3) := by decide +kernel
theorem own_d6_10 : decode jdk_33_method_22_code 10 = .ok (.if_icmp .gt 13, 3) := by decide +kernel
theorem own_d6_13 : decode jdk_33_method_22_code 13 = .ok (.getstatic 195, 3) := by decide +kernel
theorem own_d6_16 : decode jdk_33_method_22_code 16 = .ok (.iload_n 0, 1) := by decide +kernel
theorem own_d6_17 : decode jdk_33_method_22_code 17 = .ok (.sipush 128, 3) := by decide +kernel
theorem own_d6_20 : decode jdk_33_method_22_code 20 = .ok (.iadd, 1) := by decide +kernel
theorem own_d6_21 : decode jdk_33_method_22_code 21 = .ok (.aaload, 1) := by decide +kernel
theorem own_d6_22 : decode jdk_33_method_22_code 22 = .ok (.areturn, 1) := by decide +kernel
theorem own_d6_23 : decode jdk_33_method_22_code 23 = .ok (.new 1, 3) := by decide +kernel
theorem own_d6_26 : decode jdk_33_method_22_code 26 = .ok (.dup, 1) := by decide +kernel
theorem own_d6_27 : decode jdk_33_method_22_code 27 = .ok (.iload_n 0, 1) := by decide +kernel
theorem own_d6_28 : decode jdk_33_method_22_code 28 = .ok (.invokespecial 199, 3) := by decide +kernel
theorem own_d6_31 : decode jdk_33_method_22_code 31 = .ok (.areturn, 1) := by decide +kernel
def own_Q6 (Z : State) (p1 : Int32) (ca : Addr) (cv : List Value) (h0 : Heap) (n0 : Nat) (v : Option Value) (h : Heap) (L : List Loc) : Prop := ∃ ra0 : Addr, v = some (.ref ra0) ∧ Fr n0 L ∧ Keep h0 h [] ∧ Exa Z h ra0 "java/lang/Integer" ∧ Fld Z h ra0 "java/lang/Integer" "value" "I" (.int p1)
set_option maxRecDepth 65536 in
set_option maxHeartbeats 40000000 in
theorem rm6 (l : Launch) (Z : State) (a0 : Array Value) (hw : ∀ d ∈ tables_1, d.before a0 Z = true) (ws : List Jvm.Cond) (p1 : Int32) (ca : Addr) (cv : List Value) (h0 : Heap) (n0 : Nat) (Z0 : n0 ≤ h0.size) (S0p : Sta Z h0 "java/lang/Integer$IntegerCache" "high" "I" (.int (127 : Int32))) (S1p : Sta Z h0 "java/lang/Integer$IntegerCache" "cache" "[Ljava/lang/Integer;" (.ref ca)) (V2p : own_A Z h0 ca (.object "java/lang/Integer") cv) (hca : own_Ca Z h0 cv) :
    MetFree l (⟨"java/lang/Integer", "valueOf", "(I)Ljava/lang/Integer;"⟩ : MethodName) (head1 (Jvm.Cond.code (⟨"java/lang/Integer", "valueOf", "(I)Ljava/lang/Integer;"⟩ : MethodName) jdk_33_method_22_code 1 (some (.object "java/lang/Integer")) :: ws) ({ frames := 3, cells := 2, slots := 2, locals := 38 } : Room)) (fun a U => a = #[.int p1] ∧ Z.Warmed39 U.vm ∧ U.heap = h0) (fun _ _ _ _ _ => True) (fun _ U o U' => ∃ v L, o = .returned v ∧ own_Q6 Z p1 ca cv h0 n0 v U'.heap L ∧ FrameEnd U o U' L ({ frames := 3, cells := 2, slots := 2, locals := 38 } : Room).cells ({ frames := 3, cells := 2, slots := 2, locals := 38 } : Room).slots) := by
  refine MetFree.of_bodySF (plainFor_of_name own_pn4) hisR ?_
  intro p e s m args below meth c s₁ Bd hml0 hP hK
  obtain ⟨rfl, hZ, hh⟩ := hP
  have hx := Bd.exec
  have hby := Bd.bytes
  have hml : c.maxLocals = 1 := hml0
  have hown : s.vm.findClass "java/lang/Integer" = some m.cls := findClass_of_methodNamed Bd.named
  have hnm := (name_of_methodNamed Bd.named Bd.method).1
  have hlk : meth.locks = false := BodyLoose.notSynchronized Bd
  have X0 : Stand p l e ({ frames := 3, cells := 2, slots := 2, locals := 38 } : Room) s m #[.int p1] below meth c s₁ [] 0 0 := Stand.of_body Bd
  have e0 : s₁.heap = h0 := by rw [← hh, Bd.state]; rfl
  have N0 := Fr.nil n0
  have K0 := Keep.refl h0 []
  show own_Go p e below (own_E s 2 2 (own_Q6 Z p1 ca cv h0 n0)) (s₁.setTop (entryFrame m #[.int p1] 1))
  rw [own_ef6]
  refine own_iloadN X0 hx (hb hby own_d6_0) (q := 1) rfl rfl ?_
  refine own_bipush X0 hx (v := (-128 : Int32)) (hb hby own_d6_1) (q := 3) rfl rfl ?_
  refine own_icmpP X0 hx (hb hby own_d6_3) (cd := .lt) (x := p1) (y := (-128 : Int32)) (pt := 23) (q := 6) (by decide) (by decide) rfl rfl (fun (c1 : p1 < (-128 : Int32)) => ?_) (fun (c1 : ¬ (p1 < (-128 : Int32))) => ?_)
  · refine own_new X0 hx hZ hown (hw _ (List.mem_of_getElem? (i := 187) rfl)) (hw _ (List.mem_of_getElem? (i := 188) rfl)) (hw _ (List.mem_of_getElem? (i := 33) rfl)) e0 (hb hby own_d6_23) (by decide) (by decide) (q := 26) rfl (fun T963 h966 a967 X964 e965 g968 E969 A970 D971 => ?_)
    have O972 : h0.size ≤ a967 := by rw [g968]; exact K0.1
    have S973 := Sta.ext E969 S0p
    have S974 := Sta.ext E969 S1p
    have V975 := V2p.ext E969
    have K976 := K0.ext E969
    have ne977 : ca ≠ a967 := by rw [g968]; exact Nat.ne_of_lt V2p.lt
    have Z978 : n0 ≤ a967 := by rw [g968]; exact Z0
    have Z979 : n0 ≤ h966.size := Nat.le_trans Z0 E969.1
    have F980 : Fld Z h966 a967 "java/lang/Integer" "value" "I" (.int (0 : Int32)) := D971 (Or.inr (hw _ (List.mem_of_getElem? (i := 186) rfl))) (ty := .int) (by decide)
    refine own_dup X964 hx (hb hby own_d6_26) (q := 27) rfl rfl ?_
    refine own_iloadN X964 hx (hb hby own_d6_27) (q := 28) rfl rfl ?_
    refine own_callC X964 hx hZ hown rfl (hw _ (List.mem_of_getElem? (i := 189) rfl)) (hw _ (List.mem_of_getElem? (i := 190) rfl)) (hw _ (List.mem_of_getElem? (i := 33) rfl)) (hw _ (List.mem_of_getElem? (i := 191) rfl)) (by decide) (rm28 l Z a0 hw [] a967 p1 (0 : Int32) h966 n0 A970 F980 Z978 ) own_pd10 rfl e965 (by rw [hml]; rfl) (argsL := [.int p1]) (st := [.ref a967]) rfl (W := 1) (Nat.le_of_eq rfl) (by decide) (by decide) (by decide) (by decide) (hb hby own_d6_28) (q := 31) rfl (fun v984 T985 L986 X987 hQ988 => ?_)
    obtain ⟨rfl, N989, K990, E992, F993⟩ := hQ988
    have S994 := own_staKeep S973 K990 (allS (own_exaPlain A970) all0)
    have S995 := own_staKeep S974 K990 (allS (own_exaPlain A970) all0)
    have V996 := V975.keep K990 (ninS ne977 nin0)
    have Z997 : n0 ≤ T985.heap.size := Nat.le_trans Z979 K990.1
    have K998 := K976.trans K990 (allS (Or.inr O972) all0)
    have N991 := Fr.app N0 N989
    show own_Go p e below (own_E s 2 2 (own_Q6 Z p1 ca cv h0 n0)) (T985.setTop (mkF m 31 #[.val (.int p1)] [.ref a967]))
    refine own_retA X987 hx hlk rfl rfl rfl Bd.returns (hb hby own_d6_31) ?_ (by decide) (by decide)
    show own_Q6 Z p1 ca cv h0 n0 _ T985.heap _
    exact ⟨a967, rfl, N991, K998, E992, F993⟩
  · refine own_iloadN X0 hx (hb hby own_d6_6) (q := 7) rfl rfl ?_
    refine own_getS X0 hx hZ hown (hw _ (List.mem_of_getElem? (i := 35) rfl)) Via.refl e0 S0p (hb hby own_d6_7) (q := 10) rfl (fun T999 X1000 e1001 => ?_)
    refine own_icmpP X1000 hx (hb hby own_d6_10) (cd := .gt) (x := p1) (y := (127 : Int32)) (pt := 23) (q := 13) (by decide) (by decide) rfl rfl (fun (c2 : (127 : Int32) < p1) => ?_) (fun (c2 : ¬ ((127 : Int32) < p1)) => ?_)
    · refine own_new X1000 hx hZ hown (hw _ (List.mem_of_getElem? (i := 187) rfl)) (hw _ (List.mem_of_getElem? (i := 188) rfl)) (hw _ (List.mem_of_getElem? (i := 33) rfl)) e1001 (hb hby own_d6_23) (by decide) (by decide) (q := 26) rfl (fun T1002 h1005 a1006 X1003 e1004 g1007 E1008 A1009 D1010 => ?_)
      have O1011 : h0.size ≤ a1006 := by rw [g1007]; exact K0.1
      have S1012 := Sta.ext E1008 S0p
      have S1013 := Sta.ext E1008 S1p
      have V1014 := V2p.ext E1008
      have K1015 := K0.ext E1008
      have ne1016 : ca ≠ a1006 := by rw [g1007]; exact Nat.ne_of_lt V2p.lt
      have Z1017 : n0 ≤ a1006 := by rw [g1007]; exact Z0
      have Z1018 : n0 ≤ h1005.size := Nat.le_trans Z0 E1008.1
      have F1019 : Fld Z h1005 a1006 "java/lang/Integer" "value" "I" (.int (0 : Int32)) := D1010 (Or.inr (hw _ (List.mem_of_getElem? (i := 186) rfl))) (ty := .int) (by decide)
      refine own_dup X1003 hx (hb hby own_d6_26) (q := 27) rfl rfl ?_
      refine own_iloadN X1003 hx (hb hby own_d6_27) (q := 28) rfl rfl ?_
      refine own_callC X1003 hx hZ hown rfl (hw _ (List.mem_of_getElem? (i := 189) rfl)) (hw _ (List.mem_of_getElem? (i := 190) rfl)) (hw _ (List.mem_of_getElem? (i := 33) rfl)) (hw _ (List.mem_of_getElem? (i := 191) rfl)) (by decide) (rm28 l Z a0 hw [] a1006 p1 (0 : Int32) h1005 n0 A1009 F1019 Z1017 ) own_pd10 rfl e1004 (by rw [hml]; rfl) (argsL := [.int p1]) (st := [.ref a1006]) rfl (W := 1) (Nat.le_of_eq rfl) (by decide) (by decide) (by decide) (by decide) (hb hby own_d6_28) (q := 31) rfl (fun v1023 T1024 L1025 X1026 hQ1027 => ?_)
      obtain ⟨rfl, N1028, K1029, E1031, F1032⟩ := hQ1027
      have S1033 := own_staKeep S1012 K1029 (allS (own_exaPlain A1009) all0)
      have S1034 := own_staKeep S1013 K1029 (allS (own_exaPlain A1009) all0)
      have V1035 := V1014.keep K1029 (ninS ne1016 nin0)
      have Z1036 : n0 ≤ T1024.heap.size := Nat.le_trans Z1018 K1029.1
      have K1037 := K1015.trans K1029 (allS (Or.inr O1011) all0)
      have N1030 := Fr.app N0 N1028
      show own_Go p e below (own_E s 2 2 (own_Q6 Z p1 ca cv h0 n0)) (T1024.setTop (mkF m 31 #[.val (.int p1)] [.ref a1006]))
      refine own_retA X1026 hx hlk rfl rfl rfl Bd.returns (hb hby own_d6_31) ?_ (by decide) (by decide)
      show own_Q6 Z p1 ca cv h0 n0 _ T1024.heap _
      exact ⟨a1006, rfl, N1030, K1037, E1031, F1032⟩
    · refine own_getS X1000 hx hZ hown (hw _ (List.mem_of_getElem? (i := 37) rfl)) Via.refl e1001 S1p (hb hby own_d6_13) (q := 16) rfl (fun T1038 X1039 e1040 => ?_)
      refine own_iloadN X1039 hx (hb hby own_d6_16) (q := 17) rfl rfl ?_
      refine own_sipush X1039 hx (v := (128 : Int32)) (hb hby own_d6_17) (q := 20) rfl rfl ?_
      refine own_iadd X1039 hx (hb hby own_d6_20) (q := 21) rfl ?_
      obtain ⟨q1045, b1041, q1042, E1043, F1044⟩ := own_ca hca c1 c2
      refine own_aaloadA X1039 hx hZ e1040 V2p q1045 rfl q1042 (hb hby own_d6_21) (q := 22) rfl ?_
      refine own_retA X1039 hx hlk rfl rfl rfl Bd.returns (hb hby own_d6_22) ?_ (by decide) (by decide)
      show own_Q6 Z p1 ca cv h0 n0 _ T1038.heap _
      rw [e1040]
      exact ⟨b1041, rfl, N0, K0, E1043, F1044⟩
def own_pre (e m : Int32) (k : Nat) : Prop := k ≤ 15 ∧ 1 ≤ e.toInt ∧ ((k : Int) + 1) * e.toInt ≤ 2147483647 ∧ (k : Int) * e.toInt + 1 ≤ m.toInt ∧ m.toInt ≤ ((k : Int) + 1) * e.toInt
theorem own_k16 (c : Int32) : c &&& 15 = 0 ∨ c &&& 15 = 1 ∨ c &&& 15 = 2 ∨ c &&& 15 = 3 ∨ c &&& 15 = 4 ∨ c &&& 15 = 5 ∨ c &&& 15 = 6 ∨ c &&& 15 = 7 ∨ c &&& 15 = 8 ∨ c &&& 15 = 9 ∨ c &&& 15 = 10 ∨ c &&& 15 = 11 ∨ c &&& 15 = 12 ∨ c &&& 15 = 13 ∨ c &&& 15 = 14 ∨ c &&& 15 = 15 := by
  have h := c_mask c 15 4 (by decide) (by decide)
  simp only [← Int32.toInt_inj, Int32.reduceToInt]; omega
theorem own_pre0 (a b : Int32) : own_pre (1 + (a &&& (2147483647 : Int32)) % ((2147483647 : Int32) / ((0 : Int32) + 1))) ((0 : Int32) * (1 + (a &&& (2147483647 : Int32)) % ((2147483647 : Int32) / ((0 : Int32) + 1))) + (1 + (b &&& (2147483647 : Int32)) % (1 + (a &&& (2147483647 : Int32)) % ((2147483647 : Int32) / ((0 : Int32) + 1))))) 0 := by
  rw [show ((2147483647 : Int32) / ((0 : Int32) + 1)) = (2147483647 : Int32) from by decide]
  have h1 := c_mask a 2147483647 31 (by decide) (by decide)
  have h2 := c_mask b 2147483647 31 (by decide) (by decide)
  have h3 := (c_irem (a &&& (2147483647 : Int32)) 2147483647 2147483647 (by decide)).1 (by rw [h1]; omega)
  have h4 := c_iadd 1 ((a &&& (2147483647 : Int32)) % 2147483647)
  have h5 := rng32 (1 + (a &&& (2147483647 : Int32)) % 2147483647)
  simp only [Int32.reduceToInt] at h3 h4
  obtain ⟨e, he⟩ : ∃ e, e = 1 + (a &&& (2147483647 : Int32)) % 2147483647 := ⟨_, rfl⟩
  rw [← he] at h4 h5 ⊢
  have e1 : 1 ≤ e.toInt ∧ e.toInt ≤ 2147483647 := by omega
  have h6 := ((c_iremV (b &&& (2147483647 : Int32)) e).1 (by rw [h2]; omega) (by omega))
  have h7 := c_iadd 1 ((b &&& (2147483647 : Int32)) % e)
  have h8 := rng32 (1 + (b &&& (2147483647 : Int32)) % e)
  have h9 := c_imul 0 e
  have h10 := rng32 (0 * e)
  have h11 := c_iadd (0 * e) (1 + (b &&& (2147483647 : Int32)) % e)
  have h12 := rng32 (0 * e + (1 + (b &&& (2147483647 : Int32)) % e))
  simp only [Int32.reduceToInt] at h7 h9
  unfold own_pre
  refine ⟨by omega, by omega, ?_, ?_, ?_⟩ <;> omega
theorem own_pre1 (a b : Int32) : own_pre (1 + (a &&& (2147483647 : Int32)) % ((2147483647 : Int32) / ((1 : Int32) + 1))) ((1 : Int32) * (1 + (a &&& (2147483647 : Int32)) % ((2147483647 : Int32) / ((1 : Int32) + 1))) + (1 + (b &&& (2147483647 : Int32)) % (1 + (a &&& (2147483647 : Int32)) % ((2147483647 : Int32) / ((1 : Int32) + 1))))) 1 := by
  rw [show ((2147483647 : Int32) / ((1 : Int32) + 1)) = (1073741823 : Int32) from by decide]
  have h1 := c_mask a 2147483647 31 (by decide) (by decide)
  have h2 := c_mask b 2147483647 31 (by decide) (by decide)
  have h3 := (c_irem (a &&& (2147483647 : Int32)) 1073741823 1073741823 (by decide)).1 (by rw [h1]; omega)
  have h4 := c_iadd 1 ((a &&& (2147483647 : Int32)) % 1073741823)
  have h5 := rng32 (1 + (a &&& (2147483647 : Int32)) % 1073741823)
  simp only [Int32.reduceToInt] at h3 h4
  obtain ⟨e, he⟩ : ∃ e, e = 1 + (a &&& (2147483647 : Int32)) % 1073741823 := ⟨_, rfl⟩
  rw [← he] at h4 h5 ⊢
  have e1 : 1 ≤ e.toInt ∧ e.toInt ≤ 1073741823 := by omega
  have h6 := ((c_iremV (b &&& (2147483647 : Int32)) e).1 (by rw [h2]; omega) (by omega))
  have h7 := c_iadd 1 ((b &&& (2147483647 : Int32)) % e)
  have h8 := rng32 (1 + (b &&& (2147483647 : Int32)) % e)
  have h9 := c_imul 1 e
  have h10 := rng32 (1 * e)
  have h11 := c_iadd (1 * e) (1 + (b &&& (2147483647 : Int32)) % e)
  have h12 := rng32 (1 * e + (1 + (b &&& (2147483647 : Int32)) % e))
  simp only [Int32.reduceToInt] at h7 h9
  unfold own_pre
  refine ⟨by omega, by omega, ?_, ?_, ?_⟩ <;> omega
theorem own_pre2 (a b : Int32) : own_pre (1 + (a &&& (2147483647 : Int32)) % ((2147483647 : Int32) / ((2 : Int32) + 1))) ((2 : Int32) * (1 + (a &&& (2147483647 : Int32)) % ((2147483647 : Int32) / ((2 : Int32) + 1))) + (1 + (b &&& (2147483647 : Int32)) % (1 + (a &&& (2147483647 : Int32)) % ((2147483647 : Int32) / ((2 : Int32) + 1))))) 2 := by
  rw [show ((2147483647 : Int32) / ((2 : Int32) + 1)) = (715827882 : Int32) from by decide]
  have h1 := c_mask a 2147483647 31 (by decide) (by decide)
  have h2 := c_mask b 2147483647 31 (by decide) (by decide)
  have h3 := (c_irem (a &&& (2147483647 : Int32)) 715827882 715827882 (by decide)).1 (by rw [h1]; omega)
  have h4 := c_iadd 1 ((a &&& (2147483647 : Int32)) % 715827882)
  have h5 := rng32 (1 + (a &&& (2147483647 : Int32)) % 715827882)
  simp only [Int32.reduceToInt] at h3 h4
  obtain ⟨e, he⟩ : ∃ e, e = 1 + (a &&& (2147483647 : Int32)) % 715827882 := ⟨_, rfl⟩
  rw [← he] at h4 h5 ⊢
  have e1 : 1 ≤ e.toInt ∧ e.toInt ≤ 715827882 := by omega
  have h6 := ((c_iremV (b &&& (2147483647 : Int32)) e).1 (by rw [h2]; omega) (by omega))
  have h7 := c_iadd 1 ((b &&& (2147483647 : Int32)) % e)
  have h8 := rng32 (1 + (b &&& (2147483647 : Int32)) % e)
  have h9 := c_imul 2 e
  have h10 := rng32 (2 * e)
  have h11 := c_iadd (2 * e) (1 + (b &&& (2147483647 : Int32)) % e)
  have h12 := rng32 (2 * e + (1 + (b &&& (2147483647 : Int32)) % e))
  simp only [Int32.reduceToInt] at h7 h9
  unfold own_pre
  refine ⟨by omega, by omega, ?_, ?_, ?_⟩ <;> omega
theorem own_pre3 (a b : Int32) : own_pre (1 + (a &&& (2147483647 : Int32)) % ((2147483647 : Int32) / ((3 : Int32) + 1))) ((3 : Int32) * (1 + (a &&& (2147483647 : Int32)) % ((2147483647 : Int32) / ((3 : Int32) + 1))) + (1 + (b &&& (2147483647 : Int32)) % (1 + (a &&& (2147483647 : Int32)) % ((2147483647 : Int32) / ((3 : Int32) + 1))))) 3 := by
  rw [show ((2147483647 : Int32) / ((3 : Int32) + 1)) = (536870911 : Int32) from by decide]
  have h1 := c_mask a 2147483647 31 (by decide) (by decide)
  have h2 := c_mask b 2147483647 31 (by decide) (by decide)
  have h3 := (c_irem (a &&& (2147483647 : Int32)) 536870911 536870911 (by decide)).1 (by rw [h1]; omega)
  have h4 := c_iadd 1 ((a &&& (2147483647 : Int32)) % 536870911)
  have h5 := rng32 (1 + (a &&& (2147483647 : Int32)) % 536870911)
  simp only [Int32.reduceToInt] at h3 h4
  obtain ⟨e, he⟩ : ∃ e, e = 1 + (a &&& (2147483647 : Int32)) % 536870911 := ⟨_, rfl⟩
  rw [← he] at h4 h5 ⊢
  have e1 : 1 ≤ e.toInt ∧ e.toInt ≤ 536870911 := by omega
  have h6 := ((c_iremV (b &&& (2147483647 : Int32)) e).1 (by rw [h2]; omega) (by omega))
  have h7 := c_iadd 1 ((b &&& (2147483647 : Int32)) % e)
  have h8 := rng32 (1 + (b &&& (2147483647 : Int32)) % e)
  have h9 := c_imul 3 e
  have h10 := rng32 (3 * e)
  have h11 := c_iadd (3 * e) (1 + (b &&& (2147483647 : Int32)) % e)
  have h12 := rng32 (3 * e + (1 + (b &&& (2147483647 : Int32)) % e))
  simp only [Int32.reduceToInt] at h7 h9
  unfold own_pre
  refine ⟨by omega, by omega, ?_, ?_, ?_⟩ <;> omega
theorem own_pre4 (a b : Int32) : own_pre (1 + (a &&& (2147483647 : Int32)) % ((2147483647 : Int32) / ((4 : Int32) + 1))) ((4 : Int32) * (1 + (a &&& (2147483647 : Int32)) % ((2147483647 : Int32) / ((4 : Int32) + 1))) + (1 + (b &&& (2147483647 : Int32)) % (1 + (a &&& (2147483647 : Int32)) % ((2147483647 : Int32) / ((4 : Int32) + 1))))) 4 := by
  rw [show ((2147483647 : Int32) / ((4 : Int32) + 1)) = (429496729 : Int32) from by decide]
  have h1 := c_mask a 2147483647 31 (by decide) (by decide)
  have h2 := c_mask b 2147483647 31 (by decide) (by decide)
  have h3 := (c_irem (a &&& (2147483647 : Int32)) 429496729 429496729 (by decide)).1 (by rw [h1]; omega)
  have h4 := c_iadd 1 ((a &&& (2147483647 : Int32)) % 429496729)
  have h5 := rng32 (1 + (a &&& (2147483647 : Int32)) % 429496729)
  simp only [Int32.reduceToInt] at h3 h4
  obtain ⟨e, he⟩ : ∃ e, e = 1 + (a &&& (2147483647 : Int32)) % 429496729 := ⟨_, rfl⟩
  rw [← he] at h4 h5 ⊢
  have e1 : 1 ≤ e.toInt ∧ e.toInt ≤ 429496729 := by omega
  have h6 := ((c_iremV (b &&& (2147483647 : Int32)) e).1 (by rw [h2]; omega) (by omega))
  have h7 := c_iadd 1 ((b &&& (2147483647 : Int32)) % e)
  have h8 := rng32 (1 + (b &&& (2147483647 : Int32)) % e)
  have h9 := c_imul 4 e
  have h10 := rng32 (4 * e)
  have h11 := c_iadd (4 * e) (1 + (b &&& (2147483647 : Int32)) % e)
  have h12 := rng32 (4 * e + (1 + (b &&& (2147483647 : Int32)) % e))
  simp only [Int32.reduceToInt] at h7 h9
  unfold own_pre
  refine ⟨by omega, by omega, ?_, ?_, ?_⟩ <;> omega
theorem own_pre5 (a b : Int32) : own_pre (1 + (a &&& (2147483647 : Int32)) % ((2147483647 : Int32) / ((5 : Int32) + 1))) ((5 : Int32) * (1 + (a &&& (2147483647 : Int32)) % ((2147483647 : Int32) / ((5 : Int32) + 1))) + (1 + (b &&& (2147483647 : Int32)) % (1 + (a &&& (2147483647 : Int32)) % ((2147483647 : Int32) / ((5 : Int32) + 1))))) 5 := by
  rw [show ((2147483647 : Int32) / ((5 : Int32) + 1)) = (357913941 : Int32) from by decide]
  have h1 := c_mask a 2147483647 31 (by decide) (by decide)
  have h2 := c_mask b 2147483647 31 (by decide) (by decide)
  have h3 := (c_irem (a &&& (2147483647 : Int32)) 357913941 357913941 (by decide)).1 (by rw [h1]; omega)
  have h4 := c_iadd 1 ((a &&& (2147483647 : Int32)) % 357913941)
  have h5 := rng32 (1 + (a &&& (2147483647 : Int32)) % 357913941)
  simp only [Int32.reduceToInt] at h3 h4
  obtain ⟨e, he⟩ : ∃ e, e = 1 + (a &&& (2147483647 : Int32)) % 357913941 := ⟨_, rfl⟩
  rw [← he] at h4 h5 ⊢
  have e1 : 1 ≤ e.toInt ∧ e.toInt ≤ 357913941 := by omega
  have h6 := ((c_iremV (b &&& (2147483647 : Int32)) e).1 (by rw [h2]; omega) (by omega))
  have h7 := c_iadd 1 ((b &&& (2147483647 : Int32)) % e)
  have h8 := rng32 (1 + (b &&& (2147483647 : Int32)) % e)
  have h9 := c_imul 5 e
  have h10 := rng32 (5 * e)
  have h11 := c_iadd (5 * e) (1 + (b &&& (2147483647 : Int32)) % e)
  have h12 := rng32 (5 * e + (1 + (b &&& (2147483647 : Int32)) % e))
  simp only [Int32.reduceToInt] at h7 h9
  unfold own_pre
  refine ⟨by omega, by omega, ?_, ?_, ?_⟩ <;> omega
theorem own_pre6 (a b : Int32) : own_pre (1 + (a &&& (2147483647 : Int32)) % ((2147483647 : Int32) / ((6 : Int32) + 1))) ((6 : Int32) * (1 + (a &&& (2147483647 : Int32)) % ((2147483647 : Int32) / ((6 : Int32) + 1))) + (1 + (b &&& (2147483647 : Int32)) % (1 + (a &&& (2147483647 : Int32)) % ((2147483647 : Int32) / ((6 : Int32) + 1))))) 6 := by
  rw [show ((2147483647 : Int32) / ((6 : Int32) + 1)) = (306783378 : Int32) from by decide]
  have h1 := c_mask a 2147483647 31 (by decide) (by decide)
  have h2 := c_mask b 2147483647 31 (by decide) (by decide)
  have h3 := (c_irem (a &&& (2147483647 : Int32)) 306783378 306783378 (by decide)).1 (by rw [h1]; omega)
  have h4 := c_iadd 1 ((a &&& (2147483647 : Int32)) % 306783378)
  have h5 := rng32 (1 + (a &&& (2147483647 : Int32)) % 306783378)
  simp only [Int32.reduceToInt] at h3 h4
  obtain ⟨e, he⟩ : ∃ e, e = 1 + (a &&& (2147483647 : Int32)) % 306783378 := ⟨_, rfl⟩
  rw [← he] at h4 h5 ⊢
  have e1 : 1 ≤ e.toInt ∧ e.toInt ≤ 306783378 := by omega
  have h6 := ((c_iremV (b &&& (2147483647 : Int32)) e).1 (by rw [h2]; omega) (by omega))
  have h7 := c_iadd 1 ((b &&& (2147483647 : Int32)) % e)
  have h8 := rng32 (1 + (b &&& (2147483647 : Int32)) % e)
  have h9 := c_imul 6 e
  have h10 := rng32 (6 * e)
  have h11 := c_iadd (6 * e) (1 + (b &&& (2147483647 : Int32)) % e)
  have h12 := rng32 (6 * e + (1 + (b &&& (2147483647 : Int32)) % e))
  simp only [Int32.reduceToInt] at h7 h9
  unfold own_pre
  refine ⟨by omega, by omega, ?_, ?_, ?_⟩ <;> omega
theorem own_pre7 (a b : Int32) : own_pre (1 + (a &&& (2147483647 : Int32)) % ((2147483647 : Int32) / ((7 : Int32) + 1))) ((7 : Int32) * (1 + (a &&& (2147483647 : Int32)) % ((2147483647 : Int32) / ((7 : Int32) + 1))) + (1 + (b &&& (2147483647 : Int32)) % (1 + (a &&& (2147483647 : Int32)) % ((2147483647 : Int32) / ((7 : Int32) + 1))))) 7 := by
  rw [show ((2147483647 : Int32) / ((7 : Int32) + 1)) = (268435455 : Int32) from by decide]
  have h1 := c_mask a 2147483647 31 (by decide) (by decide)
  have h2 := c_mask b 2147483647 31 (by decide) (by decide)
  have h3 := (c_irem (a &&& (2147483647 : Int32)) 268435455 268435455 (by decide)).1 (by rw [h1]; omega)
  have h4 := c_iadd 1 ((a &&& (2147483647 : Int32)) % 268435455)
  have h5 := rng32 (1 + (a &&& (2147483647 : Int32)) % 268435455)
  simp only [Int32.reduceToInt] at h3 h4
  obtain ⟨e, he⟩ : ∃ e, e = 1 + (a &&& (2147483647 : Int32)) % 268435455 := ⟨_, rfl⟩
  rw [← he] at h4 h5 ⊢
  have e1 : 1 ≤ e.toInt ∧ e.toInt ≤ 268435455 := by omega
  have h6 := ((c_iremV (b &&& (2147483647 : Int32)) e).1 (by rw [h2]; omega) (by omega))
  have h7 := c_iadd 1 ((b &&& (2147483647 : Int32)) % e)
  have h8 := rng32 (1 + (b &&& (2147483647 : Int32)) % e)
  have h9 := c_imul 7 e
  have h10 := rng32 (7 * e)
  have h11 := c_iadd (7 * e) (1 + (b &&& (2147483647 : Int32)) % e)
  have h12 := rng32 (7 * e + (1 + (b &&& (2147483647 : Int32)) % e))
  simp only [Int32.reduceToInt] at h7 h9
  unfold own_pre
  refine ⟨by omega, by omega, ?_, ?_, ?_⟩ <;> omega
theorem own_pre8 (a b : Int32) : own_pre (1 + (a &&& (2147483647 : Int32)) % ((2147483647 : Int32) / ((8 : Int32) + 1))) ((8 : Int32) * (1 + (a &&& (2147483647 : Int32)) % ((2147483647 : Int32) / ((8 : Int32) + 1))) + (1 + (b &&& (2147483647 : Int32)) % (1 + (a &&& (2147483647 : Int32)) % ((2147483647 : Int32) / ((8 : Int32) + 1))))) 8 := by
  rw [show ((2147483647 : Int32) / ((8 : Int32) + 1)) = (238609294 : Int32) from by decide]
  have h1 := c_mask a 2147483647 31 (by decide) (by decide)
  have h2 := c_mask b 2147483647 31 (by decide) (by decide)
  have h3 := (c_irem (a &&& (2147483647 : Int32)) 238609294 238609294 (by decide)).1 (by rw [h1]; omega)
  have h4 := c_iadd 1 ((a &&& (2147483647 : Int32)) % 238609294)
  have h5 := rng32 (1 + (a &&& (2147483647 : Int32)) % 238609294)
  simp only [Int32.reduceToInt] at h3 h4
  obtain ⟨e, he⟩ : ∃ e, e = 1 + (a &&& (2147483647 : Int32)) % 238609294 := ⟨_, rfl⟩
  rw [← he] at h4 h5 ⊢
  have e1 : 1 ≤ e.toInt ∧ e.toInt ≤ 238609294 := by omega
  have h6 := ((c_iremV (b &&& (2147483647 : Int32)) e).1 (by rw [h2]; omega) (by omega))
  have h7 := c_iadd 1 ((b &&& (2147483647 : Int32)) % e)
  have h8 := rng32 (1 + (b &&& (2147483647 : Int32)) % e)
  have h9 := c_imul 8 e
  have h10 := rng32 (8 * e)
  have h11 := c_iadd (8 * e) (1 + (b &&& (2147483647 : Int32)) % e)
  have h12 := rng32 (8 * e + (1 + (b &&& (2147483647 : Int32)) % e))
  simp only [Int32.reduceToInt] at h7 h9
  unfold own_pre
  refine ⟨by omega, by omega, ?_, ?_, ?_⟩ <;> omega
theorem own_pre9 (a b : Int32) : own_pre (1 + (a &&& (2147483647 : Int32)) % ((2147483647 : Int32) / ((9 : Int32) + 1))) ((9 : Int32) * (1 + (a &&& (2147483647 : Int32)) % ((2147483647 : Int32) / ((9 : Int32) + 1))) + (1 + (b &&& (2147483647 : Int32)) % (1 + (a &&& (2147483647 : Int32)) % ((2147483647 : Int32) / ((9 : Int32) + 1))))) 9 := by
  rw [show ((2147483647 : Int32) / ((9 : Int32) + 1)) = (214748364 : Int32) from by decide]
  have h1 := c_mask a 2147483647 31 (by decide) (by decide)
  have h2 := c_mask b 2147483647 31 (by decide) (by decide)
  have h3 := (c_irem (a &&& (2147483647 : Int32)) 214748364 214748364 (by decide)).1 (by rw [h1]; omega)
  have h4 := c_iadd 1 ((a &&& (2147483647 : Int32)) % 214748364)
  have h5 := rng32 (1 + (a &&& (2147483647 : Int32)) % 214748364)
  simp only [Int32.reduceToInt] at h3 h4
  obtain ⟨e, he⟩ : ∃ e, e = 1 + (a &&& (2147483647 : Int32)) % 214748364 := ⟨_, rfl⟩
  rw [← he] at h4 h5 ⊢
  have e1 : 1 ≤ e.toInt ∧ e.toInt ≤ 214748364 := by omega
  have h6 := ((c_iremV (b &&& (2147483647 : Int32)) e).1 (by rw [h2]; omega) (by omega))
  have h7 := c_iadd 1 ((b &&& (2147483647 : Int32)) % e)
  have h8 := rng32 (1 + (b &&& (2147483647 : Int32)) % e)
  have h9 := c_imul 9 e
  have h10 := rng32 (9 * e)
  have h11 := c_iadd (9 * e) (1 + (b &&& (2147483647 : Int32)) % e)
  have h12 := rng32 (9 * e + (1 + (b &&& (2147483647 : Int32)) % e))
  simp only [Int32.reduceToInt] at h7 h9
  unfold own_pre
  refine ⟨by omega, by omega, ?_, ?_, ?_⟩ <;> omega
theorem own_pre10 (a b : Int32) : own_pre (1 + (a &&& (2147483647 : Int32)) % ((2147483647 : Int32) / ((10 : Int32) + 1))) ((10 : Int32) * (1 + (a &&& (2147483647 : Int32)) % ((2147483647 : Int32) / ((10 : Int32) + 1))) + (1 + (b &&& (2147483647 : Int32)) % (1 + (a &&& (2147483647 : Int32)) % ((2147483647 : Int32) / ((10 : Int32) + 1))))) 10 := by
  rw [show ((2147483647 : Int32) / ((10 : Int32) + 1)) = (195225786 : Int32) from by decide]
  have h1 := c_mask a 2147483647 31 (by decide) (by decide)
  have h2 := c_mask b 2147483647 31 (by decide) (by decide)
  have h3 := (c_irem (a &&& (2147483647 : Int32)) 195225786 195225786 (by decide)).1 (by rw [h1]; omega)
  have h4 := c_iadd 1 ((a &&& (2147483647 : Int32)) % 195225786)
  have h5 := rng32 (1 + (a &&& (2147483647 : Int32)) % 195225786)
  simp only [Int32.reduceToInt] at h3 h4
  obtain ⟨e, he⟩ : ∃ e, e = 1 + (a &&& (2147483647 : Int32)) % 195225786 := ⟨_, rfl⟩
  rw [← he] at h4 h5 ⊢
  have e1 : 1 ≤ e.toInt ∧ e.toInt ≤ 195225786 := by omega
  have h6 := ((c_iremV (b &&& (2147483647 : Int32)) e).1 (by rw [h2]; omega) (by omega))
  have h7 := c_iadd 1 ((b &&& (2147483647 : Int32)) % e)
  have h8 := rng32 (1 + (b &&& (2147483647 : Int32)) % e)
  have h9 := c_imul 10 e
  have h10 := rng32 (10 * e)
  have h11 := c_iadd (10 * e) (1 + (b &&& (2147483647 : Int32)) % e)
  have h12 := rng32 (10 * e + (1 + (b &&& (2147483647 : Int32)) % e))
  simp only [Int32.reduceToInt] at h7 h9
  unfold own_pre
  refine ⟨by omega, by omega, ?_, ?_, ?_⟩ <;> omega
theorem own_pre11 (a b : Int32) : own_pre (1 + (a &&& (2147483647 : Int32)) % ((2147483647 : Int32) / ((11 : Int32) + 1))) ((11 : Int32) * (1 + (a &&& (2147483647 : Int32)) % ((2147483647 : Int32) / ((11 : Int32) + 1))) + (1 + (b &&& (2147483647 : Int32)) % (1 + (a &&& (2147483647 : Int32)) % ((2147483647 : Int32) / ((11 : Int32) + 1))))) 11 := by
  rw [show ((2147483647 : Int32) / ((11 : Int32) + 1)) = (178956970 : Int32) from by decide]
  have h1 := c_mask a 2147483647 31 (by decide) (by decide)
  have h2 := c_mask b 2147483647 31 (by decide) (by decide)
  have h3 := (c_irem (a &&& (2147483647 : Int32)) 178956970 178956970 (by decide)).1 (by rw [h1]; omega)
  have h4 := c_iadd 1 ((a &&& (2147483647 : Int32)) % 178956970)
  have h5 := rng32 (1 + (a &&& (2147483647 : Int32)) % 178956970)
  simp only [Int32.reduceToInt] at h3 h4
  obtain ⟨e, he⟩ : ∃ e, e = 1 + (a &&& (2147483647 : Int32)) % 178956970 := ⟨_, rfl⟩
  rw [← he] at h4 h5 ⊢
  have e1 : 1 ≤ e.toInt ∧ e.toInt ≤ 178956970 := by omega
  have h6 := ((c_iremV (b &&& (2147483647 : Int32)) e).1 (by rw [h2]; omega) (by omega))
  have h7 := c_iadd 1 ((b &&& (2147483647 : Int32)) % e)
  have h8 := rng32 (1 + (b &&& (2147483647 : Int32)) % e)
  have h9 := c_imul 11 e
  have h10 := rng32 (11 * e)
  have h11 := c_iadd (11 * e) (1 + (b &&& (2147483647 : Int32)) % e)
  have h12 := rng32 (11 * e + (1 + (b &&& (2147483647 : Int32)) % e))
  simp only [Int32.reduceToInt] at h7 h9
  unfold own_pre
  refine ⟨by omega, by omega, ?_, ?_, ?_⟩ <;> omega
theorem own_pre12 (a b : Int32) : own_pre (1 + (a &&& (2147483647 : Int32)) % ((2147483647 : Int32) / ((12 : Int32) + 1))) ((12 : Int32) * (1 + (a &&& (2147483647 : Int32)) % ((2147483647 : Int32) / ((12 : Int32) + 1))) + (1 + (b &&& (2147483647 : Int32)) % (1 + (a &&& (2147483647 : Int32)) % ((2147483647 : Int32) / ((12 : Int32) + 1))))) 12 := by
  rw [show ((2147483647 : Int32) / ((12 : Int32) + 1)) = (165191049 : Int32) from by decide]
  have h1 := c_mask a 2147483647 31 (by decide) (by decide)
  have h2 := c_mask b 2147483647 31 (by decide) (by decide)
  have h3 := (c_irem (a &&& (2147483647 : Int32)) 165191049 165191049 (by decide)).1 (by rw [h1]; omega)
  have h4 := c_iadd 1 ((a &&& (2147483647 : Int32)) % 165191049)
  have h5 := rng32 (1 + (a &&& (2147483647 : Int32)) % 165191049)
  simp only [Int32.reduceToInt] at h3 h4
  obtain ⟨e, he⟩ : ∃ e, e = 1 + (a &&& (2147483647 : Int32)) % 165191049 := ⟨_, rfl⟩
  rw [← he] at h4 h5 ⊢
  have e1 : 1 ≤ e.toInt ∧ e.toInt ≤ 165191049 := by omega
  have h6 := ((c_iremV (b &&& (2147483647 : Int32)) e).1 (by rw [h2]; omega) (by omega))
  have h7 := c_iadd 1 ((b &&& (2147483647 : Int32)) % e)
  have h8 := rng32 (1 + (b &&& (2147483647 : Int32)) % e)
  have h9 := c_imul 12 e
  have h10 := rng32 (12 * e)
  have h11 := c_iadd (12 * e) (1 + (b &&& (2147483647 : Int32)) % e)
  have h12 := rng32 (12 * e + (1 + (b &&& (2147483647 : Int32)) % e))
  simp only [Int32.reduceToInt] at h7 h9
  unfold own_pre
  refine ⟨by omega, by omega, ?_, ?_, ?_⟩ <;> omega
theorem own_pre13 (a b : Int32) : own_pre (1 + (a &&& (2147483647 : Int32)) % ((2147483647 : Int32) / ((13 : Int32) + 1))) ((13 : Int32) * (1 + (a &&& (2147483647 : Int32)) % ((2147483647 : Int32) / ((13 : Int32) + 1))) + (1 + (b &&& (2147483647 : Int32)) % (1 + (a &&& (2147483647 : Int32)) % ((2147483647 : Int32) / ((13 : Int32) + 1))))) 13 := by
  rw [show ((2147483647 : Int32) / ((13 : Int32) + 1)) = (153391689 : Int32) from by decide]
  have h1 := c_mask a 2147483647 31 (by decide) (by decide)
  have h2 := c_mask b 2147483647 31 (by decide) (by decide)
  have h3 := (c_irem (a &&& (2147483647 : Int32)) 153391689 153391689 (by decide)).1 (by rw [h1]; omega)
  have h4 := c_iadd 1 ((a &&& (2147483647 : Int32)) % 153391689)
  have h5 := rng32 (1 + (a &&& (2147483647 : Int32)) % 153391689)
  simp only [Int32.reduceToInt] at h3 h4
  obtain ⟨e, he⟩ : ∃ e, e = 1 + (a &&& (2147483647 : Int32)) % 153391689 := ⟨_, rfl⟩
  rw [← he] at h4 h5 ⊢
  have e1 : 1 ≤ e.toInt ∧ e.toInt ≤ 153391689 := by omega
  have h6 := ((c_iremV (b &&& (2147483647 : Int32)) e).1 (by rw [h2]; omega) (by omega))
  have h7 := c_iadd 1 ((b &&& (2147483647 : Int32)) % e)
  have h8 := rng32 (1 + (b &&& (2147483647 : Int32)) % e)
  have h9 := c_imul 13 e
  have h10 := rng32 (13 * e)
  have h11 := c_iadd (13 * e) (1 + (b &&& (2147483647 : Int32)) % e)
  have h12 := rng32 (13 * e + (1 + (b &&& (2147483647 : Int32)) % e))
  simp only [Int32.reduceToInt] at h7 h9
  unfold own_pre
  refine ⟨by omega, by omega, ?_, ?_, ?_⟩ <;> omega
theorem own_pre14 (a b : Int32) : own_pre (1 + (a &&& (2147483647 : Int32)) % ((2147483647 : Int32) / ((14 : Int32) + 1))) ((14 : Int32) * (1 + (a &&& (2147483647 : Int32)) % ((2147483647 : Int32) / ((14 : Int32) + 1))) + (1 + (b &&& (2147483647 : Int32)) % (1 + (a &&& (2147483647 : Int32)) % ((2147483647 : Int32) / ((14 : Int32) + 1))))) 14 := by
  rw [show ((2147483647 : Int32) / ((14 : Int32) + 1)) = (143165576 : Int32) from by decide]
  have h1 := c_mask a 2147483647 31 (by decide) (by decide)
  have h2 := c_mask b 2147483647 31 (by decide) (by decide)
  have h3 := (c_irem (a &&& (2147483647 : Int32)) 143165576 143165576 (by decide)).1 (by rw [h1]; omega)
  have h4 := c_iadd 1 ((a &&& (2147483647 : Int32)) % 143165576)
  have h5 := rng32 (1 + (a &&& (2147483647 : Int32)) % 143165576)
  simp only [Int32.reduceToInt] at h3 h4
  obtain ⟨e, he⟩ : ∃ e, e = 1 + (a &&& (2147483647 : Int32)) % 143165576 := ⟨_, rfl⟩
  rw [← he] at h4 h5 ⊢
  have e1 : 1 ≤ e.toInt ∧ e.toInt ≤ 143165576 := by omega
  have h6 := ((c_iremV (b &&& (2147483647 : Int32)) e).1 (by rw [h2]; omega) (by omega))
  have h7 := c_iadd 1 ((b &&& (2147483647 : Int32)) % e)
  have h8 := rng32 (1 + (b &&& (2147483647 : Int32)) % e)
  have h9 := c_imul 14 e
  have h10 := rng32 (14 * e)
  have h11 := c_iadd (14 * e) (1 + (b &&& (2147483647 : Int32)) % e)
  have h12 := rng32 (14 * e + (1 + (b &&& (2147483647 : Int32)) % e))
  simp only [Int32.reduceToInt] at h7 h9
  unfold own_pre
  refine ⟨by omega, by omega, ?_, ?_, ?_⟩ <;> omega
theorem own_pre15 (a b : Int32) : own_pre (1 + (a &&& (2147483647 : Int32)) % ((2147483647 : Int32) / ((15 : Int32) + 1))) ((15 : Int32) * (1 + (a &&& (2147483647 : Int32)) % ((2147483647 : Int32) / ((15 : Int32) + 1))) + (1 + (b &&& (2147483647 : Int32)) % (1 + (a &&& (2147483647 : Int32)) % ((2147483647 : Int32) / ((15 : Int32) + 1))))) 15 := by
  rw [show ((2147483647 : Int32) / ((15 : Int32) + 1)) = (134217727 : Int32) from by decide]
  have h1 := c_mask a 2147483647 31 (by decide) (by decide)
  have h2 := c_mask b 2147483647 31 (by decide) (by decide)
  have h3 := (c_irem (a &&& (2147483647 : Int32)) 134217727 134217727 (by decide)).1 (by rw [h1]; omega)
  have h4 := c_iadd 1 ((a &&& (2147483647 : Int32)) % 134217727)
  have h5 := rng32 (1 + (a &&& (2147483647 : Int32)) % 134217727)
  simp only [Int32.reduceToInt] at h3 h4
  obtain ⟨e, he⟩ : ∃ e, e = 1 + (a &&& (2147483647 : Int32)) % 134217727 := ⟨_, rfl⟩
  rw [← he] at h4 h5 ⊢
  have e1 : 1 ≤ e.toInt ∧ e.toInt ≤ 134217727 := by omega
  have h6 := ((c_iremV (b &&& (2147483647 : Int32)) e).1 (by rw [h2]; omega) (by omega))
  have h7 := c_iadd 1 ((b &&& (2147483647 : Int32)) % e)
  have h8 := rng32 (1 + (b &&& (2147483647 : Int32)) % e)
  have h9 := c_imul 15 e
  have h10 := rng32 (15 * e)
  have h11 := c_iadd (15 * e) (1 + (b &&& (2147483647 : Int32)) % e)
  have h12 := rng32 (15 * e + (1 + (b &&& (2147483647 : Int32)) % e))
  simp only [Int32.reduceToInt] at h7 h9
  unfold own_pre
  refine ⟨by omega, by omega, ?_, ?_, ?_⟩ <;> omega

def own_SS (Z : State) (h : Heap) (n0 : Nat) (dc ca em : Addr) (cv : List Value) : Prop :=
  Sta Z h "java/util/ArrayList" "DEFAULTCAPACITY_EMPTY_ELEMENTDATA" "[Ljava/lang/Object;" (.ref dc) ∧ own_R Z h dc [] ∧ dc < n0 ∧ Sta Z h "java/lang/Integer$IntegerCache" "high" "I" (.int (127 : Int32)) ∧ Sta Z h "java/lang/Integer$IntegerCache" "cache" "[Ljava/lang/Integer;" (.ref ca) ∧ own_A Z h ca (.object "java/lang/Integer") cv ∧ ca < n0 ∧ own_Ca Z h cv ∧ Sta Z h "java/util/ImmutableCollections" "EMPTY" "Ljava/lang/Object;" (.ref em) ∧ Exa Z h em "java/lang/Object"
theorem own_SS.keep {Z : State} {h h' : Heap} {n0 : Nat} {dc ca em : Addr} {cv : List Value} {ws : List Addr} (F : own_SS Z h n0 dc ca em cv) (K : Keep h h' ws) (hp : ∀ a ∈ ws, ∀ c : Cell, h[a]? = some c → c.vm.isStatics = false) (hn : ∀ a ∈ ws, n0 ≤ a) (hq : ∀ a ∈ ws, ∀ b, Exa Z h b "java/lang/Integer" → b ≠ a) : own_SS Z h' n0 dc ca em cv := by
  obtain ⟨s1, s2, s3, s4, s5, s6, s7, s8, s9, s10⟩ := F
  exact ⟨own_staKeep s1 K hp, s2.keep K (fun z => absurd (hn _ z) (Nat.not_le.mpr s3)), s3, own_staKeep s4 K hp, own_staKeep s5 K hp, s6.keep K (fun z => absurd (hn _ z) (Nat.not_le.mpr s7)), s7, s8.keep K hq, own_staKeep s9 K hp, s10.keep K⟩
theorem own_SS.ext {Z : State} {h h' : Heap} {n0 : Nat} {dc ca em : Addr} {cv : List Value} (F : own_SS Z h n0 dc ca em cv) (E : Ext h h') : own_SS Z h' n0 dc ca em cv := by
  obtain ⟨s1, s2, s3, s4, s5, s6, s7, s8, s9, s10⟩ := F
  exact ⟨Sta.ext E s1, s2.ext E, s3, Sta.ext E s4, Sta.ext E s5, s6.ext E, s7, s8.ext E, Sta.ext E s9, Exa.ext E s10⟩
def own_cap (n : Nat) : Nat := if n ≤ 10 then 10 else if n ≤ 15 then 15 else 22
def own_gr (n : Nat) : Nat := if n = 0 then 10 else if n = 10 then 15 else if n = 15 then 22 else 0
def own_sum (n : Nat) : Nat := if n = 0 then 0 else if n ≤ 10 then 10 else if n ≤ 15 then 25 else 47
theorem own_sumS {n : Nat} (h : n ≤ 15) : own_sum (n + 1) = own_sum n + own_gr n := by
  unfold own_sum own_gr; repeat' split
  all_goals omega
theorem own_sumB (n : Nat) : own_sum n ≤ 47 := by
  unfold own_sum; repeat' split
  all_goals omega
def own_LS (Z : State) (h : Heap) (n0 : Nat) (dc a : Addr) (bs : List Value) (xs : List Int32) : Prop :=
  n0 ≤ a ∧ Exa Z h a "java/util/ArrayList" ∧ bs.length = xs.length ∧ own_Is Z h bs xs ∧ ∃ (mc : Int32) (ea : Addr), Fld Z h a "java/util/AbstractList" "modCount" "I" (.int mc) ∧ Fld Z h a "java/util/ArrayList" "elementData" "[Ljava/lang/Object;" (.ref ea) ∧ Fld Z h a "java/util/ArrayList" "size" "I" (.int (Int32.ofNat bs.length)) ∧ ((bs = [] ∧ ea = dc) ∨ (bs ≠ [] ∧ n0 ≤ ea ∧ own_R Z h ea (bs ++ List.replicate (own_cap bs.length - bs.length) .null)))
theorem own_LS.keep0 {Z : State} {h h' : Heap} {n0 : Nat} {dc a : Addr} {bs : List Value} {xs : List Int32} (F : own_LS Z h n0 dc a bs xs) (K : Keep h h' []) : own_LS Z h' n0 dc a bs xs := by
  obtain ⟨h1, h2, h3, h4, mc, ea, h5, h6, h7, h8⟩ := F
  refine ⟨h1, h2.keep K, h3, h4.keep K (fun _ z => by cases z), mc, ea, h5.keep K nin0, h6.keep K nin0, h7.keep K nin0, ?_⟩
  rcases h8 with q | ⟨q1, q2, q3⟩
  · exact Or.inl q
  · exact Or.inr ⟨q1, q2, q3.keep K nin0⟩
theorem own_ofN {n : Nat} (h : n ≤ 1000) : (Int32.ofNat n).toInt = n := by rw [Int32.toInt_ofNat_of_lt (by omega)]
theorem own_ofNc {n : Nat} (h : n ≤ 1000) : (Int32.ofNat n).toNatClampNeg = n := by show (Int32.ofNat n).toInt.toNat = n; rw [own_ofN h]; omega
theorem own_ofNs {n : Nat} (h : n ≤ 999) : Int32.ofNat n + 1 = Int32.ofNat (n + 1) := by
  have a := c_iadd (Int32.ofNat n) 1; have r := rng32 (Int32.ofNat n + 1)
  simp only [Int32.reduceToInt, own_ofN (n := n) (by omega)] at a
  rw [← Int32.toInt_inj, own_ofN (n := n + 1) (by omega)]; omega
theorem own_ofNp {n cap : Nat} (h : n < cap) (hc : cap ≤ 1000) {z : Int32} (hz : z.toInt = cap) : ¬ Int32.ofNat n < 0 ∧ (Int32.ofNat n).toNatClampNeg < cap ∧ ¬ Int32.ofNat n = z := by
  have e := own_ofN (n := n) (by omega)
  refine ⟨by rw [Int32.lt_iff_toInt_lt, e]; simp only [Int32.reduceToInt]; omega, by rw [own_ofNc (n := n) (by omega)]; exact h, fun q => ?_⟩
  rw [q, hz] at e; omega
theorem own_setN {bs : List Value} {cap : Nat} {v : Value} (h : bs.length < cap) : (bs ++ List.replicate (cap - bs.length) Value.null).set bs.length v = (bs ++ [v]) ++ List.replicate (cap - (bs ++ [v]).length) Value.null := by
  rw [List.set_append_right _ _ (Nat.le_refl _), Nat.sub_self, show cap - bs.length = (cap - (bs ++ [v]).length) + 1 by simp; omega, List.replicate_succ, List.set_cons_zero, List.append_assoc, List.singleton_append]
theorem own_cpN {bs : List Value} {m : Nat} : own_cp (bs ++ List.replicate m Value.null) bs.length = bs := by
  unfold own_cp
  rw [List.take_left' rfl, List.length_append, show bs.length - (bs.length + (List.replicate m Value.null).length) = 0 by omega, List.replicate_zero, List.append_nil]
theorem own_fcast {Z : State} {h : Heap} {a : Addr} {C n d : String} {x y : Int32} (F : Fld Z h a C n d (.int x)) (e : x = y) : Fld Z h a C n d (.int y) := e ▸ F
theorem own_rcast {Z : State} {h : Heap} {a : Addr} {vs ws : List Value} (F : own_R Z h a vs) (e : vs = ws) : own_R Z h a ws := e ▸ F

theorem own_pd11 : parseMethodDescriptor "(Ljava/lang/Object;)Z" = some ⟨[(.object "java/lang/Object")], some .boolean⟩ := by decide +kernel
section OwnLoop
variable {p : Program} {l : Launch} {e : Env} {R : Room} {s : State} {m : MethodId} {args : Array Value} {below : List Frame} {meth : Method} {c : Code} {T : State} {locs : List Loc} {cells slots kc ks : Nat} {Q : Option Value → Heap → List Loc → Prop} {P : Outcome → State → Prop} {pc q : Nat} {Ls L' : Array Slot} {st : List Value}
theorem own_add (X : Stand p l e R s m args below meth c T locs cells slots) (hx : p.tables.exec = Jvm.exec) {Z : State} {a0 : Array Value} {h : Heap} {n0 : Nat} {a b dc ca em : Addr} {cv bs : List Value} {xs : List Int32} {x : Int32} (hZ : Z.Warmed39 s.vm) (hown : s.vm.findClass "com/example/measured_crawler/measuredcrawler/eval/measure/Trajectory" = some m.cls) (hw : ∀ d ∈ tables_1, d.before a0 Z = true) (hmir : Jvm.ShelfD.MirrorMade Z "[Ljava/lang/Object;") (eT : T.heap = h) (Zn : n0 ≤ h.size) (S : own_SS Z h n0 dc ca em cv) (F : own_LS Z h n0 dc a bs xs) (Eb : Exa Z h b "java/lang/Integer") (Vb : Fld Z h b "java/lang/Integer" "value" "I" (.int x)) (hn : bs.length ≤ 15) (hml : Ls.size = c.maxLocals) (hf : 8 ≤ R.frames) (hl : 133 ≤ R.locals) (hc : cells + 1 ≤ R.cells) (hs : slots + own_gr bs.length ≤ R.slots) (hd : decode c.code pc = .ok (.invokeinterface 43 2, 5)) (hq : pc + 5 = q)
    (K : ∀ T' L, Stand p l e R s m args below meth c T' (locs ++ L) (cells + 1) (slots + own_gr bs.length) → Fr n0 L → n0 ≤ T'.heap.size → own_SS Z T'.heap n0 dc ca em cv → own_LS Z T'.heap n0 dc a (bs ++ [.ref b]) (xs ++ [x]) → own_Go p e below P (T'.setTop (mkF m q Ls [.int 1]))) : own_Go p e below P (T.setTop (mkF m pc Ls [.ref b, .ref a])) := by
  obtain ⟨Ga, Ea, hlen, HI, mc, ea, Fm, Fe, Fs, hcase⟩ := F
  have S' := S
  obtain ⟨s1, s2, s3, s4, s5, s6, s7, s8, s9, s10⟩ := S
  have nba : b ≠ a := own_neC Eb Ea (by decide)
  have fq : ∀ {ws : List Addr}, (∀ y ∈ ws, y = a ∨ (y = ea ∧ n0 ≤ ea ∧ ∃ vs, own_R Z h ea vs)) → (∀ y ∈ ws, ∀ c : Cell, h[y]? = some c → c.vm.isStatics = false) ∧ (∀ y ∈ ws, n0 ≤ y) ∧ (∀ y ∈ ws, ∀ b, Exa Z h b "java/lang/Integer" → b ≠ y) := fun hy => by
    refine ⟨fun y hm => ?_, fun y hm => ?_, fun y hm b' Eb' => ?_⟩
    · rcases hy y hm with rfl | ⟨rfl, g, vs, A⟩
      · exact own_exaPlain Ea
      · exact A.plain
    · rcases hy y hm with rfl | ⟨rfl, g, vs, A⟩
      · exact Ga
      · exact g
    · rcases hy y hm with rfl | ⟨rfl, g, vs, A⟩
      · exact own_neC Eb' Ea (by decide)
      · exact own_neR A Eb' (by decide)
  rcases hcase with ⟨rfl, rfl⟩ | ⟨hne, Ge, A⟩
  · obtain rfl : xs = [] := List.eq_nil_of_length_eq_zero hlen.symm
    have nda : ea ≠ a := (own_neR s2 Ea (by decide)).symm
    refine own_callI X hx hZ hown (hw _ (List.mem_of_getElem? (i := 38) rfl)) (hw _ (List.mem_of_getElem? (i := 39) rfl)) (hw _ (List.mem_of_getElem? (i := 40) rfl)) rfl (hw _ (List.mem_of_getElem? (i := 41) rfl)) (hw _ (List.mem_of_getElem? (i := 42) rfl)) (hw _ (List.mem_of_getElem? (i := 43) rfl)) (hw _ (List.mem_of_getElem? (i := 44) rfl)) (hw _ (List.mem_of_getElem? (i := 45) rfl)) (hw _ (List.mem_of_getElem? (i := 7) rfl)) (hw _ (List.mem_of_getElem? (i := 46) rfl)) Ea (by decide) (rm7_0 l Z a0 hw [] a b mc ea h n0 Zn Ea Fm Fe Fs s1 s2 own_Ex.nil Eb Ga nda nba hmir) own_pd11 rfl eT hml (argsL := [.ref b]) (st := []) rfl (W := 0) (Nat.le_of_eq rfl) (Nat.le_trans (by decide) hf) (Nat.le_trans (by decide) hl) hc hs hd hq (fun v T' L X' hQ => ?_)
    obtain ⟨ra, rfl, N, K1, hge, A1, E1, F1, F2, F3, -, -, E2⟩ := hQ
    obtain ⟨fp, fn, fr⟩ := fq (ws := [a]) (fun y hy => by cases List.mem_singleton.mp hy; exact Or.inl rfl)
    refine K T' L X' N (Nat.le_trans Zn K1.1) (S'.keep K1 fp fn fr) ⟨Ga, E1, by rw [List.length_append, List.length_append, hlen] <;> rfl, (HI.keep K1 fr).snoc hlen E2 (Vb.keep K1 (fun z => fr b z b Eb rfl)), _, _, F1, F2, own_fcast F3 rfl, Or.inr ⟨by simp, (Nat.le_trans Zn hge), own_rcast A1 rfl⟩⟩
  have nea : ea ≠ a := (own_neR A Ea (by decide)).symm
  have nbe : b ≠ ea := own_neR A Eb (by decide)
  have hpos : 0 < bs.length := List.length_pos_iff.mpr hne
  by_cases h10 : bs.length = 10
  · obtain ⟨v0, v1, v2, v3, v4, v5, v6, v7, v8, v9, rfl⟩ : ∃ v0 v1 v2 v3 v4 v5 v6 v7 v8 v9 : Value, bs = [v0, v1, v2, v3, v4, v5, v6, v7, v8, v9] := by
      match bs, h10 with
      | [v0, v1, v2, v3, v4, v5, v6, v7, v8, v9], _ => exact ⟨v0, v1, v2, v3, v4, v5, v6, v7, v8, v9, rfl⟩
    have A' : own_R Z h ea [v0, v1, v2, v3, v4, v5, v6, v7, v8, v9] := A
    refine own_callI X hx hZ hown (hw _ (List.mem_of_getElem? (i := 38) rfl)) (hw _ (List.mem_of_getElem? (i := 39) rfl)) (hw _ (List.mem_of_getElem? (i := 40) rfl)) rfl (hw _ (List.mem_of_getElem? (i := 41) rfl)) (hw _ (List.mem_of_getElem? (i := 42) rfl)) (hw _ (List.mem_of_getElem? (i := 43) rfl)) (hw _ (List.mem_of_getElem? (i := 44) rfl)) (hw _ (List.mem_of_getElem? (i := 45) rfl)) (hw _ (List.mem_of_getElem? (i := 7) rfl)) (hw _ (List.mem_of_getElem? (i := 46) rfl)) Ea (by decide) (rm7_10 l Z a0 hw [] a b mc ea v0 v1 v2 v3 v4 v5 v6 v7 v8 v9 h n0 Zn Ea Fm Fe Fs A' HI.ex Eb Ga nea nba hmir) own_pd11 rfl eT hml (argsL := [.ref b]) (st := []) rfl (W := 0) (Nat.le_of_eq rfl) (Nat.le_trans (by decide) hf) (Nat.le_trans (by decide) hl) hc hs hd hq (fun v T' L X' hQ => ?_)
    obtain ⟨ra, rfl, N, K1, hge, A1, E1, F1, F2, F3, -, -, E2⟩ := hQ
    obtain ⟨fp, fn, fr⟩ := fq (ws := [a]) (fun y hy => by cases List.mem_singleton.mp hy; exact Or.inl rfl)
    refine K T' L X' N (Nat.le_trans Zn K1.1) (S'.keep K1 fp fn fr) ⟨Ga, E1, by rw [List.length_append, List.length_append, hlen] <;> rfl, (HI.keep K1 fr).snoc hlen E2 (Vb.keep K1 (fun z => fr b z b Eb rfl)), _, _, F1, F2, own_fcast F3 rfl, Or.inr ⟨by simp, (Nat.le_trans Zn hge), own_rcast A1 rfl⟩⟩
  by_cases h15 : bs.length = 15
  · obtain ⟨v0, v1, v2, v3, v4, v5, v6, v7, v8, v9, v10, v11, v12, v13, v14, rfl⟩ : ∃ v0 v1 v2 v3 v4 v5 v6 v7 v8 v9 v10 v11 v12 v13 v14 : Value, bs = [v0, v1, v2, v3, v4, v5, v6, v7, v8, v9, v10, v11, v12, v13, v14] := by
      match bs, h15 with
      | [v0, v1, v2, v3, v4, v5, v6, v7, v8, v9, v10, v11, v12, v13, v14], _ => exact ⟨v0, v1, v2, v3, v4, v5, v6, v7, v8, v9, v10, v11, v12, v13, v14, rfl⟩
    have A' : own_R Z h ea [v0, v1, v2, v3, v4, v5, v6, v7, v8, v9, v10, v11, v12, v13, v14] := A
    refine own_callI X hx hZ hown (hw _ (List.mem_of_getElem? (i := 38) rfl)) (hw _ (List.mem_of_getElem? (i := 39) rfl)) (hw _ (List.mem_of_getElem? (i := 40) rfl)) rfl (hw _ (List.mem_of_getElem? (i := 41) rfl)) (hw _ (List.mem_of_getElem? (i := 42) rfl)) (hw _ (List.mem_of_getElem? (i := 43) rfl)) (hw _ (List.mem_of_getElem? (i := 44) rfl)) (hw _ (List.mem_of_getElem? (i := 45) rfl)) (hw _ (List.mem_of_getElem? (i := 7) rfl)) (hw _ (List.mem_of_getElem? (i := 46) rfl)) Ea (by decide) (rm7_15 l Z a0 hw [] a b mc ea v0 v1 v2 v3 v4 v5 v6 v7 v8 v9 v10 v11 v12 v13 v14 h n0 Zn Ea Fm Fe Fs A' HI.ex Eb Ga nea nba hmir) own_pd11 rfl eT hml (argsL := [.ref b]) (st := []) rfl (W := 0) (Nat.le_of_eq rfl) (Nat.le_trans (by decide) hf) (Nat.le_trans (by decide) hl) hc hs hd hq (fun v T' L X' hQ => ?_)
    obtain ⟨ra, rfl, N, K1, hge, A1, E1, F1, F2, F3, -, -, E2⟩ := hQ
    obtain ⟨fp, fn, fr⟩ := fq (ws := [a]) (fun y hy => by cases List.mem_singleton.mp hy; exact Or.inl rfl)
    refine K T' L X' N (Nat.le_trans Zn K1.1) (S'.keep K1 fp fn fr) ⟨Ga, E1, by rw [List.length_append, List.length_append, hlen] <;> rfl, (HI.keep K1 fr).snoc hlen E2 (Vb.keep K1 (fun z => fr b z b Eb rfl)), _, _, F1, F2, own_fcast F3 rfl, Or.inr ⟨by simp, (Nat.le_trans Zn hge), own_rcast A1 rfl⟩⟩
  have hg : own_gr bs.length = 0 := by unfold own_gr; rw [if_neg (by omega), if_neg h10, if_neg h15]
  by_cases hb : bs.length < 10
  · have hcp : own_cap bs.length = 10 ∧ own_cap (bs ++ [Value.ref b]).length = 10 := by simp only [own_cap, List.length_append, List.length_singleton]; constructor <;> (repeat' split) <;> omega
    rw [hcp.1] at A
    have hp := own_ofNp (n := bs.length) (cap := 10) (by omega) (by decide) (z := 10) rfl
    refine own_callI X hx hZ hown (hw _ (List.mem_of_getElem? (i := 38) rfl)) (hw _ (List.mem_of_getElem? (i := 39) rfl)) (hw _ (List.mem_of_getElem? (i := 40) rfl)) rfl (hw _ (List.mem_of_getElem? (i := 41) rfl)) (hw _ (List.mem_of_getElem? (i := 42) rfl)) (hw _ (List.mem_of_getElem? (i := 43) rfl)) (hw _ (List.mem_of_getElem? (i := 44) rfl)) (hw _ (List.mem_of_getElem? (i := 45) rfl)) (hw _ (List.mem_of_getElem? (i := 7) rfl)) (hw _ (List.mem_of_getElem? (i := 46) rfl)) Ea (by decide) (rm7_r10 l Z a0 hw [] a b mc ea (Int32.ofNat bs.length) (bs ++ List.replicate (10 - bs.length) .null) h n0 Ea Fm Fe Fs A Eb Ga Ge nea nba nbe (by rw [List.length_append, List.length_replicate]; omega) hp) own_pd11 rfl eT hml (argsL := [.ref b]) (st := []) rfl (W := 0) (Nat.le_of_eq rfl) (Nat.le_trans (by decide) hf) (Nat.le_trans (by decide) hl) (by show cells + 0 ≤ _; omega) (by show slots + 0 ≤ _; omega) hd hq (fun v T' L X' hQ => ?_)
    obtain ⟨rfl, N, K1, E1, F1, F2, F3, A1, E2⟩ := hQ
    rw [own_ofNc (n := bs.length) (by omega)] at A1
    obtain ⟨fp, fn, fr⟩ := fq (ws := [a, ea]) (fun y hy => by
        simp only [List.mem_cons, List.not_mem_nil, or_false] at hy
        rcases hy with rfl | rfl
        · exact Or.inl rfl
        · exact Or.inr ⟨rfl, Ge, _, A⟩)
    refine K T' L (X'.more (by show cells + 0 ≤ _; omega) (by show slots + 0 ≤ _; omega)) N (Nat.le_trans Zn K1.1) (S'.keep K1 fp fn fr) ⟨Ga, E1, by rw [List.length_append, List.length_append, hlen] <;> rfl, (HI.keep K1 fr).snoc hlen E2 (Vb.keep K1 (fun z => fr b z b Eb rfl)), _, _, F1, F2, own_fcast F3 (by rw [own_ofNs (n := bs.length) (by omega), List.length_append, List.length_singleton]), Or.inr ⟨by simp, Ge, own_rcast A1 (by rw [own_setN (by omega), hcp.2])⟩⟩
  have hcp : own_cap bs.length = 15 ∧ own_cap (bs ++ [Value.ref b]).length = 15 := by simp only [own_cap, List.length_append, List.length_singleton]; constructor <;> (repeat' split) <;> omega
  rw [hcp.1] at A
  have hp := own_ofNp (n := bs.length) (cap := 15) (by omega) (by decide) (z := 15) rfl
  refine own_callI X hx hZ hown (hw _ (List.mem_of_getElem? (i := 38) rfl)) (hw _ (List.mem_of_getElem? (i := 39) rfl)) (hw _ (List.mem_of_getElem? (i := 40) rfl)) rfl (hw _ (List.mem_of_getElem? (i := 41) rfl)) (hw _ (List.mem_of_getElem? (i := 42) rfl)) (hw _ (List.mem_of_getElem? (i := 43) rfl)) (hw _ (List.mem_of_getElem? (i := 44) rfl)) (hw _ (List.mem_of_getElem? (i := 45) rfl)) (hw _ (List.mem_of_getElem? (i := 7) rfl)) (hw _ (List.mem_of_getElem? (i := 46) rfl)) Ea (by decide) (rm7_r15 l Z a0 hw [] a b mc ea (Int32.ofNat bs.length) (bs ++ List.replicate (15 - bs.length) .null) h n0 Ea Fm Fe Fs A Eb Ga Ge nea nba nbe (by rw [List.length_append, List.length_replicate]; omega) hp) own_pd11 rfl eT hml (argsL := [.ref b]) (st := []) rfl (W := 0) (Nat.le_of_eq rfl) (Nat.le_trans (by decide) hf) (Nat.le_trans (by decide) hl) (by show cells + 0 ≤ _; omega) (by show slots + 0 ≤ _; omega) hd hq (fun v T' L X' hQ => ?_)
  obtain ⟨rfl, N, K1, E1, F1, F2, F3, A1, E2⟩ := hQ
  rw [own_ofNc (n := bs.length) (by omega)] at A1
  obtain ⟨fp, fn, fr⟩ := fq (ws := [a, ea]) (fun y hy => by
      simp only [List.mem_cons, List.not_mem_nil, or_false] at hy
      rcases hy with rfl | rfl
      · exact Or.inl rfl
      · exact Or.inr ⟨rfl, Ge, _, A⟩)
  refine K T' L (X'.more (by show cells + 0 ≤ _; omega) (by show slots + 0 ≤ _; omega)) N (Nat.le_trans Zn K1.1) (S'.keep K1 fp fn fr) ⟨Ga, E1, by rw [List.length_append, List.length_append, hlen] <;> rfl, (HI.keep K1 fr).snoc hlen E2 (Vb.keep K1 (fun z => fr b z b Eb rfl)), _, _, F1, F2, own_fcast F3 (by rw [own_ofNs (n := bs.length) (by omega), List.length_append, List.length_singleton]), Or.inr ⟨by simp, Ge, own_rcast A1 (by rw [own_setN (by omega), hcp.2])⟩⟩
theorem own_pn32 : plainName "com/example/measured_crawler/measuredcrawler/eval/measure/Trajectory" = true := by first | (simp [plainName, overriddenIn]; done) | decide +kernel
theorem own_ef1 (m : MethodId) (p1 : Int32) (p2 : Int32) : entryFrame m #[.int p1, .int p2] 4 = mkF m 0 #[.val (.int p1), .val (.int p2), .unset, .unset] [] := by first | (simp [entryFrame, mkF, argsToLocals, Value.category]; done) | rfl
theorem own_d1_0 : decode prog_25_method_2_code 0 = .ok (.iload_n 0, 1) := by decide +kernel
theorem own_d1_1 : decode prog_25_method_2_code 1 = .ok (.iconst 1, 1) := by decide +kernel
theorem own_d1_2 : decode prog_25_method_2_code 2 = .ok (.if_icmp .lt 8, 3) := by decide +kernel
theorem own_d1_5 : decode prog_25_method_2_code 5 = .ok (.iload_n 1, 1) := by decide +kernel
theorem own_d1_6 : decode prog_25_method_2_code 6 = .ok (.iconst 1, 1) := by decide +kernel
theorem own_d1_7 : decode prog_25_method_2_code 7 = .ok (.if_icmp .ge 18, 3) := by decide +kernel
theorem own_d1_25 : decode prog_25_method_2_code 25 = .ok (.new 34, 3) := by decide +kernel
theorem own_d1_28 : decode prog_25_method_2_code 28 = .ok (.dup, 1) := by decide +kernel
theorem own_d1_29 : decode prog_25_method_2_code 29 = .ok (.invokespecial 36, 3) := by decide +kernel
theorem own_d1_32 : decode prog_25_method_2_code 32 = .ok (.astore_n 2, 1) := by decide +kernel
theorem own_d1_33 : decode prog_25_method_2_code 33 = .ok (.iload_n 0, 1) := by decide +kernel
theorem own_d1_34 : decode prog_25_method_2_code 34 = .ok (.istore_n 3, 1) := by decide +kernel
theorem own_d1_35 : decode prog_25_method_2_code 35 = .ok (.iload_n 3, 1) := by decide +kernel
theorem own_d1_36 : decode prog_25_method_2_code 36 = .ok (.iload_n 1, 1) := by decide +kernel
theorem own_d1_37 : decode prog_25_method_2_code 37 = .ok (.if_icmp .ge 21, 3) := by decide +kernel
theorem own_d1_40 : decode prog_25_method_2_code 40 = .ok (.aload_n 2, 1) := by decide +kernel
theorem own_d1_41 : decode prog_25_method_2_code 41 = .ok (.iload_n 3, 1) := by decide +kernel
theorem own_d1_42 : decode prog_25_method_2_code 42 = .ok (.invokestatic 37, 3) := by decide +kernel
theorem own_d1_45 : decode prog_25_method_2_code 45 = .ok (.invokeinterface 43 2, 5) := by decide +kernel
theorem own_d1_50 : decode prog_25_method_2_code 50 = .ok (.pop, 1) := by decide +kernel
theorem own_d1_51 : decode prog_25_method_2_code 51 = .ok (.iload_n 3, 1) := by decide +kernel
theorem own_d1_52 : decode prog_25_method_2_code 52 = .ok (.iload_n 0, 1) := by decide +kernel
theorem own_d1_53 : decode prog_25_method_2_code 53 = .ok (.iadd, 1) := by decide +kernel
theorem own_d1_54 : decode prog_25_method_2_code 54 = .ok (.istore_n 3, 1) := by decide +kernel
theorem own_d1_55 : decode prog_25_method_2_code 55 = .ok (.goto (-20), 3) := by decide +kernel
theorem own_d1_58 : decode prog_25_method_2_code 58 = .ok (.aload_n 2, 1) := by decide +kernel
theorem own_d1_59 : decode prog_25_method_2_code 59 = .ok (.iload_n 1, 1) := by decide +kernel
theorem own_d1_60 : decode prog_25_method_2_code 60 = .ok (.invokestatic 37, 3) := by decide +kernel
theorem own_d1_63 : decode prog_25_method_2_code 63 = .ok (.invokeinterface 43 2, 5) := by decide +kernel
theorem own_d1_68 : decode prog_25_method_2_code 68 = .ok (.pop, 1) := by decide +kernel
theorem own_d1_69 : decode prog_25_method_2_code 69 = .ok (.aload_n 2, 1) := by decide +kernel
theorem own_d1_70 : decode prog_25_method_2_code 70 = .ok (.invokestatic 7, 3) := by decide +kernel
theorem own_d1_73 : decode prog_25_method_2_code 73 = .ok (.areturn, 1) := by decide +kernel
theorem own_pd12 : parseMethodDescriptor "(I)Ljava/lang/Integer;" = some ⟨[.int], some (.object "java/lang/Integer")⟩ := by decide +kernel
def own_xk (p1 p2 : Int32) (k : Nat) (xs : List Int32) : Prop := ∀ (j : Nat) (w : Int32), xs[j]? = some w → (j < k → w.toInt = ((j : Int) + 1) * p1.toInt) ∧ (j = k → w = p2)
theorem own_xk.snoc {p1 p2 w : Int32} {k i : Nat} {xs : List Int32} (F : own_xk p1 p2 k xs) (hl : xs.length = i) (h1 : i < k → w.toInt = ((i : Int) + 1) * p1.toInt) (h2 : i = k → w = p2) : own_xk p1 p2 k (xs ++ [w]) := fun j z hz => by
  rw [List.getElem?_append] at hz
  by_cases hj : j < xs.length
  · rw [if_pos hj] at hz; exact F j z hz
  · rw [if_neg hj] at hz
    have h0 : j - xs.length = 0 := by
      have := (List.getElem?_eq_some_iff.mp hz).1; simp at this; omega
    rw [h0] at hz
    cases hz
    obtain rfl : j = i := by omega
    exact ⟨h1, h2⟩
theorem own_step {p1 v : Int32} {i k : Nat} (h : i < k) (h1 : 1 ≤ p1.toInt) (hk : ((k : Int) + 1) * p1.toInt ≤ 2147483647) (hv : v.toInt = ((i : Int) + 1) * p1.toInt) : (v + p1).toInt = (((i + 1 : Nat) : Int) + 1) * p1.toInt ∧ v.toInt ≤ (k : Int) * p1.toInt := by
  have a := c_iadd v p1; have r := rng32 (v + p1); have rv := rng32 v; have rp := rng32 p1
  have e1 : ((i : Int) + 1) * p1.toInt ≤ (k : Int) * p1.toInt := Int.mul_le_mul_of_nonneg_right (by omega) (by omega)
  have e2 : ((k : Int) + 1) * p1.toInt = (k : Int) * p1.toInt + p1.toInt := by rw [Int.add_mul, Int.one_mul]
  have e3 : (((i + 1 : Nat) : Int) + 1) * p1.toInt = ((i : Int) + 1) * p1.toInt + p1.toInt := by rw [Int.natCast_add, Int.natCast_one, Int.add_mul, Int.one_mul]
  refine ⟨?_, by omega⟩
  rw [e3, ← hv]; omega
def own_Q1 (Z : State) (p1 p2 : Int32) (k : Nat) (em : Addr) (n0 : Nat) (v : Option Value) (h : Heap) (L : List Loc) : Prop := ∃ (r : Addr) (bs : List Value) (xs : List Int32), v = some (.ref r) ∧ Fr n0 L ∧ own_I Z h em r bs ∧ own_Is Z h bs xs ∧ bs.length = k + 1 ∧ own_xk p1 p2 k xs ∧ Sta Z h "java/util/ImmutableCollections" "EMPTY" "Ljava/lang/Object;" (.ref em)
set_option maxRecDepth 65536 in
set_option maxHeartbeats 40000000 in
theorem rm1 (l : Launch) (Z : State) (a0 : Array Value) (hw : ∀ d ∈ tables_1, d.before a0 Z = true) (ws : List Jvm.Cond) (p1 p2 : Int32) (k : Nat) (dc ca em : Addr) (cv : List Value) (h0 : Heap) (n0 : Nat) (Z0 : n0 ≤ h0.size) (hmir : Jvm.ShelfD.MirrorMade Z "[Ljava/lang/Object;") (SS0 : own_SS Z h0 n0 dc ca em cv) (hp : own_pre p1 p2 k) :
    MetFree l (⟨"com/example/measured_crawler/measuredcrawler/eval/measure/Trajectory", "checkpoints", "(II)Ljava/util/List;"⟩ : MethodName) (head1 (Jvm.Cond.code (⟨"com/example/measured_crawler/measuredcrawler/eval/measure/Trajectory", "checkpoints", "(II)Ljava/util/List;"⟩ : MethodName) prog_25_method_2_code 4 (some (.object "java/util/List")) :: ws) ({ frames := 9, cells := 52, slots := 116, locals := 133 } : Room)) (fun a U => a = #[.int p1, .int p2] ∧ Z.Warmed39 U.vm ∧ U.heap = h0) (fun _ _ _ _ _ => True) (fun _ U o U' => ∃ v L, o = .returned v ∧ own_Q1 Z p1 p2 k em n0 v U'.heap L ∧ FrameEnd U o U' L ({ frames := 9, cells := 52, slots := 116, locals := 133 } : Room).cells ({ frames := 9, cells := 52, slots := 116, locals := 133 } : Room).slots) := by
  refine MetFree.of_bodySF (plainFor_of_name own_pn32) hisR ?_
  intro p e s m args below meth c s₁ Bd hml0 hP hK
  obtain ⟨rfl, hZ, hh⟩ := hP
  have hx := Bd.exec
  have hby := Bd.bytes
  have hml : c.maxLocals = 4 := hml0
  have hown : s.vm.findClass "com/example/measured_crawler/measuredcrawler/eval/measure/Trajectory" = some m.cls := findClass_of_methodNamed Bd.named
  have hnm := (name_of_methodNamed Bd.named Bd.method).1
  have hlk : meth.locks = false := BodyLoose.notSynchronized Bd
  have X0 : Stand p l e ({ frames := 9, cells := 52, slots := 116, locals := 133 } : Room) s m #[.int p1, .int p2] below meth c s₁ [] 0 0 := Stand.of_body Bd
  have e0 : s₁.heap = h0 := by rw [← hh, Bd.state]; rfl
  have N0 := Fr.nil n0
  obtain ⟨hk15, hp1, hpk, hpl, hpu⟩ := hp
  have LOOP : ∀ (r i : Nat) (T : State) (locs : List Loc) (h : Heap) (a : Addr) (bs : List Value) (xs : List Int32) (v : Int32), r + i = k → Stand p l e ({ frames := 9, cells := 52, slots := 116, locals := 133 } : Room) s m #[.int p1, .int p2] below meth c T locs (1 + 3 * i) (3 + 2 * i + own_sum i) → T.heap = h → Fr n0 locs → n0 ≤ h.size → own_SS Z h n0 dc ca em cv → own_LS Z h n0 dc a bs xs → bs.length = i → own_xk p1 p2 k xs → v.toInt = ((i : Int) + 1) * p1.toInt → own_Go p e below (own_E s 52 116 (own_Q1 Z p1 p2 k em n0)) (T.setTop (mkF m 35 #[.val (.int p1), .val (.int p2), .val (.ref a), .val (.int v)] [])) := by
    intro r
    induction r with
    | zero =>
      intro i T locs h a bs xs v hr X eT N Zn SS F hbl hxk hv
      have sb := own_sumB i
      have ss := own_sumS (n := i) (by omega)
      have hfl := F.2.2.1
      have sb1 := own_sumB (i + 1)
      have hgi : own_gr bs.length = own_gr i := by rw [hbl]
      refine own_iloadN X hx (hb hby own_d1_35) (q := 36) rfl rfl ?_
      refine own_iloadN X hx (hb hby own_d1_36) (q := 37) rfl rfl ?_
      obtain rfl : k = i := by omega
      refine own_icmpM X hx (hb hby own_d1_37) (cd := .ge) (x := v) (y := p2) (pt := 58) (q := 40) (by decide) (by decide) rfl rfl (fun _ => ?_) (fun h => False.elim (by have h : v < p2 := h; rw [Int32.lt_iff_toInt_lt] at h; omega))
      refine own_aloadN X hx (hb hby own_d1_58) (q := 59) rfl rfl rfl ?_
      refine own_iloadN X hx (hb hby own_d1_59) (q := 60) rfl rfl ?_
      have SS' := SS
      obtain ⟨s1, s2, s3, s4, s5, s6, s7, s8, s9, s10⟩ := SS'
      refine own_callS X hx hZ hown (hw _ (List.mem_of_getElem? (i := 31) rfl)) (hw _ (List.mem_of_getElem? (i := 32) rfl)) (hw _ (List.mem_of_getElem? (i := 33) rfl)) (hw _ (List.mem_of_getElem? (i := 34) rfl)) (by decide) (rm6 l Z a0 hw [] p2 ca cv h n0 Zn s4 s5 s6 s8) own_pd12 rfl eT (by rw [hml]; rfl) (argsL := [.int p2]) (st := [.ref a]) rfl (W := 1) (Nat.le_of_eq rfl) (by decide) (by decide) (by first | omega | (dsimp only; omega)) (by first | omega | (dsimp only; omega)) (hb hby own_d1_60) (q := 63) rfl (fun v1 T1 L1 X1 hQ1 => ?_)
      obtain ⟨b, rfl, N1, K1, Eb, Vb⟩ := hQ1
      have SS1 := SS.keep K1 (fun _ z => by cases z) (fun _ z => by cases z) (fun _ z => by cases z)
      have F1 := F.keep0 K1
      have Z1 := Nat.le_trans Zn K1.1
      show own_Go p e below (own_E s 52 116 (own_Q1 Z p1 p2 k em n0)) (T1.setTop (mkF m 63 #[.val (.int p1), .val (.int p2), .val (.ref a), .val (.int v)] [.ref b, .ref a]))
      refine own_add X1 hx hZ hown hw hmir rfl Z1 SS1 F1 Eb Vb (by omega) (by rw [hml]; rfl) (by decide) (by decide) (by first | omega | (dsimp only; omega)) (by first | omega | (dsimp only; omega)) (hb hby own_d1_63) (q := 68) rfl (fun T2 L2 X2 N2 Z2 SS2 F2 => ?_)
      refine own_pop X2 hx (hb hby own_d1_68) (q := 69) rfl rfl ?_
      refine own_aloadN X2 hx (hb hby own_d1_69) (q := 70) rfl rfl rfl ?_
      obtain ⟨Ga, Ea, hlen, HI, mc, ea, Fm, Fe, Fs, hcase⟩ := F2
      obtain ⟨t1, t2, t3, t4, t5, t6, t7, t8, t9, t10⟩ := SS2
      rcases hcase with ⟨hh, -⟩ | ⟨hne, Ge, A⟩
      · exact absurd hh (by simp)
      obtain ⟨bs2, hb2⟩ : ∃ bs2, bs2 = bs ++ [.ref b] := ⟨_, rfl⟩
      rw [← hb2] at Fs A HI hlen hne
      have hl2 : bs2.length = k + 1 := by rw [hb2, List.length_append, List.length_singleton, hbl]
      have hcp : own_cp (bs2 ++ List.replicate (own_cap bs2.length - bs2.length) .null) (Int32.ofNat bs2.length).toNatClampNeg = bs2 := by rw [own_ofNc (n := bs2.length) (by omega)]; exact own_cpN
      have hcap : own_cap bs2.length ≤ 22 := by unfold own_cap; repeat' split
                                                all_goals omega
      refine own_callS X2 hx hZ hown (hw _ (List.mem_of_getElem? (i := 73) rfl)) (hw _ (List.mem_of_getElem? (i := 74) rfl)) (hw _ (List.mem_of_getElem? (i := 75) rfl)) (hw _ (List.mem_of_getElem? (i := 76) rfl)) (by decide) (rm12 l Z a0 hw [] a ea (Int32.ofNat bs2.length) (bs2 ++ List.replicate (own_cap bs2.length - bs2.length) .null) em T2.heap n0 Z2 Ea Fe Fs A (by rw [hcp]; exact HI.ex) t9 hmir (own_elOf (hw _ (List.mem_of_getElem? (i := 72) rfl)) HI.ex) ⟨by rw [own_ofN (by omega)]; omega, by rw [own_ofNc (by omega)]; omega⟩ (by rw [List.length_append, List.length_replicate]; omega) (fun q => by have q2 := own_ofN (n := bs2.length) (by omega); rw [q] at q2; simp only [Int32.reduceToInt] at q2; omega) (by rw [hcp]; omega) (by rw [hcp]; intro _ q2; obtain ⟨b', q3, E'⟩ := HI.ex _ (List.mem_of_getElem? q2); cases q3; exact own_neC E' t10 (by decide) rfl)) own_pd9 rfl rfl (by rw [hml]; rfl) (argsL := [.ref a]) (st := []) rfl (W := 0) (Nat.le_of_eq rfl) (by decide) (by decide) (by first | omega | (dsimp only; omega)) (by first | omega | (dsimp only; omega)) (hb hby own_d1_70) (q := 73) rfl (fun v3 T3 L3 X3 hQ3 => ?_)
      obtain ⟨r, rfl, N3, K3, I3⟩ := hQ3
      rw [hcp] at I3
      show own_Go p e below (own_E s 52 116 (own_Q1 Z p1 p2 k em n0)) (T3.setTop (mkF m 73 #[.val (.int p1), .val (.int p2), .val (.ref a), .val (.int v)] [.ref r]))
      refine own_retA X3 hx hlk rfl rfl rfl Bd.returns (hb hby own_d1_73) ?_ (by first | omega | (dsimp only; omega)) (by first | omega | (dsimp only; omega))
      exact ⟨r, bs2, xs ++ [p2], rfl, ((N.app N1).app N2).app N3, I3, HI.keep K3 (fun _ z => by cases z), hl2, hxk.snoc (i := k) (by omega) (fun z => absurd z (by omega)) (fun _ => rfl), own_staKeep t9 K3 (fun _ z => by cases z)⟩
    | succ r ih =>
      intro i T locs h a bs xs v hr X eT N Zn SS F hbl hxk hv
      have sb := own_sumB i
      have ss := own_sumS (n := i) (by omega)
      have hfl := F.2.2.1
      have sb1 := own_sumB (i + 1)
      have hgi : own_gr bs.length = own_gr i := by rw [hbl]
      refine own_iloadN X hx (hb hby own_d1_35) (q := 36) rfl rfl ?_
      refine own_iloadN X hx (hb hby own_d1_36) (q := 37) rfl rfl ?_
      obtain ⟨hv1, hv2⟩ := own_step (i := i) (k := k) (by omega) hp1 hpk hv
      refine own_icmpM X hx (hb hby own_d1_37) (cd := .ge) (x := v) (y := p2) (pt := 58) (q := 40) (by decide) (by decide) rfl rfl (fun h => False.elim (by have h : ¬ v < p2 := h; rw [Int32.lt_iff_toInt_lt] at h; omega)) (fun _ => ?_)
      refine own_aloadN X hx (hb hby own_d1_40) (q := 41) rfl rfl rfl ?_
      refine own_iloadN X hx (hb hby own_d1_41) (q := 42) rfl rfl ?_
      have SS' := SS
      obtain ⟨s1, s2, s3, s4, s5, s6, s7, s8, s9, s10⟩ := SS'
      refine own_callS X hx hZ hown (hw _ (List.mem_of_getElem? (i := 31) rfl)) (hw _ (List.mem_of_getElem? (i := 32) rfl)) (hw _ (List.mem_of_getElem? (i := 33) rfl)) (hw _ (List.mem_of_getElem? (i := 34) rfl)) (by decide) (rm6 l Z a0 hw [] v ca cv h n0 Zn s4 s5 s6 s8) own_pd12 rfl eT (by rw [hml]; rfl) (argsL := [.int v]) (st := [.ref a]) rfl (W := 1) (Nat.le_of_eq rfl) (by decide) (by decide) (by first | omega | (dsimp only; omega)) (by first | omega | (dsimp only; omega)) (hb hby own_d1_42) (q := 45) rfl (fun v1 T1 L1 X1 hQ1 => ?_)
      obtain ⟨b, rfl, N1, K1, Eb, Vb⟩ := hQ1
      have SS1 := SS.keep K1 (fun _ z => by cases z) (fun _ z => by cases z) (fun _ z => by cases z)
      have F1 := F.keep0 K1
      have Z1 := Nat.le_trans Zn K1.1
      show own_Go p e below (own_E s 52 116 (own_Q1 Z p1 p2 k em n0)) (T1.setTop (mkF m 45 #[.val (.int p1), .val (.int p2), .val (.ref a), .val (.int v)] [.ref b, .ref a]))
      refine own_add X1 hx hZ hown hw hmir rfl Z1 SS1 F1 Eb Vb (by omega) (by rw [hml]; rfl) (by decide) (by decide) (by first | omega | (dsimp only; omega)) (by first | omega | (dsimp only; omega)) (hb hby own_d1_45) (q := 50) rfl (fun T2 L2 X2 N2 Z2 SS2 F2 => ?_)
      refine own_pop X2 hx (hb hby own_d1_50) (q := 51) rfl rfl ?_
      refine own_iloadN X2 hx (hb hby own_d1_51) (q := 52) rfl rfl ?_
      refine own_iloadN X2 hx (hb hby own_d1_52) (q := 53) rfl rfl ?_
      refine own_iadd X2 hx (hb hby own_d1_53) (q := 54) rfl ?_
      refine own_istoreN (L' := #[.val (.int p1), .val (.int p2), .val (.ref a), .val (.int (v + p1))]) X2 hx (hb hby own_d1_54) (q := 55) rfl rfl ?_
      refine own_goto X2 hx (hb hby own_d1_55) (q := 35) (by decide) (by decide) ?_
      exact ih (i + 1) T2 _ T2.heap a _ _ _ (by omega) (X2.more (by first | omega | (dsimp only; omega)) (by first | (rw [ss, hbl]; omega) | (dsimp only; rw [ss, hbl]; omega))) rfl ((N.app N1).app N2) Z2 SS2 F2 (by rw [List.length_append, List.length_singleton, hbl]) (hxk.snoc (i := i) (by omega) (fun _ => hv) (fun z => absurd z (by omega))) hv1
  show own_Go p e below (own_E s 52 116 (own_Q1 Z p1 p2 k em n0)) (s₁.setTop (entryFrame m #[.int p1, .int p2] 4))
  rw [own_ef1]
  refine own_iloadN X0 hx (hb hby own_d1_0) (q := 1) rfl rfl ?_
  refine own_iconst X0 hx (v := (1 : Int32)) (hb hby own_d1_1) (q := 2) rfl rfl ?_
  refine own_icmpP X0 hx (hb hby own_d1_2) (cd := .lt) (x := p1) (y := (1 : Int32)) (pt := 10) (q := 5) (by decide) (by decide) rfl rfl (fun h => False.elim (by have h : p1 < 1 := h; rw [Int32.lt_iff_toInt_lt] at h; simp only [Int32.reduceToInt] at h; omega)) (fun _ => ?_)
  have hm1 : 1 ≤ p2.toInt := by have : 0 ≤ (k : Int) * p1.toInt := Int.mul_nonneg (by omega) (by omega); omega
  refine own_iloadN X0 hx (hb hby own_d1_5) (q := 6) rfl rfl ?_
  refine own_iconst X0 hx (v := (1 : Int32)) (hb hby own_d1_6) (q := 7) rfl rfl ?_
  refine own_icmpM X0 hx (hb hby own_d1_7) (cd := .ge) (x := p2) (y := (1 : Int32)) (pt := 25) (q := 10) (by decide) (by decide) rfl rfl (fun _ => ?_) (fun h => False.elim (by have h : p2 < 1 := h; rw [Int32.lt_iff_toInt_lt] at h; simp only [Int32.reduceToInt] at h; omega))
  refine own_new X0 hx hZ hown (hw _ (List.mem_of_getElem? (i := 5) rfl)) (hw _ (List.mem_of_getElem? (i := 6) rfl)) (hw _ (List.mem_of_getElem? (i := 7) rfl)) e0 (hb hby own_d1_25) (by decide) (by decide) (q := 28) rfl (fun T1 h1 a X1 e1 g1 Ex A D => ?_)
  have Fm : Fld Z h1 a "java/util/AbstractList" "modCount" "I" (.int (0 : Int32)) := (D (Or.inl (hw _ (List.mem_of_getElem? (i := 27) rfl))) (ty := .int) (by decide))
  have Fe : Fld Z h1 a "java/util/ArrayList" "elementData" "[Ljava/lang/Object;" (.null) := (D (Or.inl (hw _ (List.mem_of_getElem? (i := 30) rfl))) (ty := (.array (.object "java/lang/Object"))) (by decide))
  have Fs : Fld Z h1 a "java/util/ArrayList" "size" "I" (.int (0 : Int32)) := (D (Or.inl (hw _ (List.mem_of_getElem? (i := 50) rfl))) (ty := .int) (by decide))
  have SS1 := SS0.ext Ex
  have Ga : n0 ≤ a := by rw [g1]; exact Z0
  have Z1 : n0 ≤ h1.size := Nat.le_trans Z0 Ex.1
  refine own_dup X1 hx (hb hby own_d1_28) (q := 29) rfl rfl ?_
  refine own_callC X1 hx hZ hown rfl (hw _ (List.mem_of_getElem? (i := 8) rfl)) (hw _ (List.mem_of_getElem? (i := 9) rfl)) (hw _ (List.mem_of_getElem? (i := 7) rfl)) (hw _ (List.mem_of_getElem? (i := 10) rfl)) (by decide) (rm2 l Z a0 hw [] a (0 : Int32) (0 : Int32) dc h1 n0 A Fm Fe Fs SS1.1 Ga) own_pd0 rfl e1 (by rw [hml]; rfl) (argsL := []) (st := [.ref a]) rfl (W := 1) (Nat.le_of_eq rfl) (by decide) (by decide) (by decide) (by decide) (hb hby own_d1_29) (q := 32) rfl (fun v2 T2 L2 X2 hQ2 => ?_)
  obtain ⟨rfl, N2, K2, E2, Fm2, Fe2, Fs2⟩ := hQ2
  have SS2 := SS1.keep K2 (fun y hy => by cases List.mem_singleton.mp hy; exact own_exaPlain A) (fun y hy => by cases List.mem_singleton.mp hy; exact Ga) (fun y hy b Eb => by cases List.mem_singleton.mp hy; exact own_neC Eb A (by decide))
  show own_Go p e below (own_E s 52 116 (own_Q1 Z p1 p2 k em n0)) (T2.setTop (mkF m 32 #[.val (.int p1), .val (.int p2), .unset, .unset] [.ref a]))
  refine own_astoreN (L' := #[.val (.int p1), .val (.int p2), .val (.ref a), .unset]) X2 hx (hb hby own_d1_32) (q := 33) rfl rfl rfl ?_
  refine own_iloadN X2 hx (hb hby own_d1_33) (q := 34) rfl rfl ?_
  refine own_istoreN (L' := #[.val (.int p1), .val (.int p2), .val (.ref a), .val (.int p1)]) X2 hx (hb hby own_d1_34) (q := 35) rfl rfl ?_
  exact LOOP k 0 T2 _ T2.heap a [] [] p1 rfl (X2.more (by decide) (by decide)) rfl (N0.app N2) (Nat.le_trans Z1 K2.1) SS2 ⟨Ga, E2, rfl, (fun i v hv => by cases hv), _, _, Fm2, Fe2, Fs2, Or.inl ⟨rfl, rfl⟩⟩ rfl (fun j w hj => by cases hj) (by rw [Int.natCast_zero, Int.zero_add, Int.one_mul])
end OwnLoop

theorem own_len {args : Array Value} {s : State} {t : Term} {a : Addr} {cl : Cell} {v : Value} (ht : t.eval args s none [] s = some (.ref a)) (ha : s.arrayAt? a = some cl) (h : (Term.length t).eval args s none [] s = some v) : cl.slots.size < 2 ^ 31 := by
  by_cases hs : cl.slots.size < 2 ^ 31
  · exact hs
  · exfalso
    have hs' : ¬ cl.slots.size < 2147483648 := hs
    simp [Term.eval, ht, ha, hs'] at h
theorem own_lenIs {args : Array Value} {s : State} {t : Term} {a : Addr} {cl : Cell} {N : Int32} {n : Nat} (ev : t.eval args s none [] s = some (.ref a)) (ha : s.arrayAt? a = some cl) (h : (Cond.eq (Term.length t) (Term.int N)).value args s none s [] = some true) (hN : N.toInt = n) : cl.slots.size = n := by
  obtain ⟨v, w, e1, e2, k1, k2⟩ := cmp_v (Or.inl h)
  obtain rfl : w = .int N := Option.some.inj (e2.symm.trans (Term.int_eval N))
  have hs := own_len ev ha e1
  rw [len_f ev ha hs] at e1
  obtain rfl := Option.some.inj e1
  have h1 : cl.slots.size.toInt32 = N := by simpa [Cond.value, len_f ev ha hs, e2] using h
  have h2 := congrArg Int32.toInt h1
  rw [len_toInt hs, hN] at h2
  omega
theorem own_exaAt {args : Array Value} {s : State} {t : Term} {C : String} {idx : List Nat} (h : (Cond.exactly t C).value args s none s idx = some true) : ∃ a, t.eval args s none idx s = some (.ref a) ∧ Exa s s.heap a C := by
  obtain ⟨a, c', cell, k, e1, e2, e3, e4, e5, rfl, e7⟩ := Cond.exactly_spec (beq_iff_eq.mpr h : (Cond.exactly t C).holds args s none s idx = true)
  exact ⟨a, e1, cell, k, e3, e2, e4, e5, e7⟩
set_option maxHeartbeats 40000000 in
theorem own_start {s : State} {args : Array Value} (hw : ∀ d ∈ tables_1, d.before args s = true) (hsets : ∀ d ∈ jdkStatics_1, d.before args s = true) : ∃ (dc ca em : Addr) (cv : List Value), own_SS s s.heap s.heap.size dc ca em cv := by
  obtain ⟨dc, ev0, E0⟩ := own_exaAt (Cond.before_iff.mp (hsets _ (List.mem_of_getElem? (i := 7) rfl)))
  obtain ⟨c0, A0⟩ := Arr.start ev0 (Cond.before_iff.mp (hsets _ (List.mem_of_getElem? (i := 6) rfl)))
  have l0 := own_lenIs ev0 (A0.fin (Vm.Alike.refl _)) (Cond.before_iff.mp (hsets _ (List.mem_of_getElem? (i := 8) rfl))) (n := 0) rfl
  obtain ⟨comp, cc, k, o1, -, o2, o3, o4⟩ := Cond.arrayOver_spec (show (Cond.arrayOver (.object "java/lang/Object")).holds _ _ _ _ _ = true from (hw _ (List.mem_of_getElem? (i := 71) rfl)))
  obtain ⟨c0', k0, q1, q2, q3, q4, -⟩ := E0
  cases A0.1.symm.trans q1
  have q5 : s.vm.findClass "[Ljava/lang/Object;" = some cc := o4
  cases q2.symm.trans q5
  have R0 : own_R s s.heap dc [] := ⟨c0, A0, ⟨k, comp, o2, o3, o1⟩, q2, by
    apply List.eq_nil_of_length_eq_zero; rw [Array.length_toList]; exact l0⟩
  obtain ⟨ca, ev1, E1⟩ := own_exaAt (Cond.before_iff.mp (hsets _ (List.mem_of_getElem? (i := 14) rfl)))
  obtain ⟨c1, A1⟩ := Arr.start ev1 (Cond.before_iff.mp (hsets _ (List.mem_of_getElem? (i := 13) rfl)))
  have ha1 := A1.fin (Vm.Alike.refl _)
  have l1 := own_lenIs ev1 ha1 (Cond.before_iff.mp (hsets _ (List.mem_of_getElem? (i := 15) rfl))) (n := 256) rfl
  obtain ⟨em, ev2, E2⟩ := own_exaAt (Cond.before_iff.mp (hsets _ (List.mem_of_getElem? (i := 19) rfl)))
  obtain ⟨hi, w, ev3, e3, kk, -⟩ := cmp_v (Or.inl (Cond.before_iff.mp (hsets _ (List.mem_of_getElem? (i := 12) rfl))))
  obtain rfl : w = .int 127 := Option.some.inj (e3.symm.trans (Term.int_eval 127))
  have ehi : hi = .int 127 := by
    have q := (Cond.before_iff.mp (hsets _ (List.mem_of_getElem? (i := 12) rfl)))
    cases hi <;> simp [Cond.value, ev3, Term.int_eval] at q
    rw [q]
  subst ehi
  have S3 := Sta.start ev3 (Or.inl (hsets _ (List.mem_of_getElem? (i := 10) rfl)))
  have hic : (Cond.initialized "java/lang/Integer$IntegerCache").before args s = true := (hw _ (List.mem_of_getElem? (i := 36) rfl))
  refine ⟨dc, ca, em, c1.slots.toList, Sta.start ev0 (Or.inr ⟨(hw _ (List.mem_of_getElem? (i := 7) rfl)), (hsets _ (List.mem_of_getElem? (i := 2) rfl))⟩), R0, R0.lt, S3, Sta.start ev1 (Or.inr ⟨hic, (hsets _ (List.mem_of_getElem? (i := 11) rfl))⟩), ⟨c1, A1, rfl⟩, A1.lt, fun i hi => ?_, Sta.start ev2 (Or.inl (hsets _ (List.mem_of_getElem? (i := 18) rfl))), E2⟩
  have q := Cond.all_elim ev1 ha1 (Cond.before_iff.mp (hsets _ (List.mem_of_getElem? (i := 16) rfl))) i (by rw [l1]; exact hi)
  obtain ⟨qa, qb⟩ := and_e q
  obtain ⟨b, e1, Eb⟩ := own_exaAt qa
  have ix : (Term.index 0).eval args s none [i] s = some (.int (Int32.ofNat i)) := Term.index_eval _
  have hn : ¬ Int32.ofNat i < 0 := by rw [Int32.lt_iff_toInt_lt, own_ofN (n := i) (by omega)]; simp only [Int32.reduceToInt]; omega
  have el := elem_f (t := (Jvm.Term.static "java/lang/Integer$IntegerCache" "cache" "[Ljava/lang/Integer;")) (a := Term.index 0) (args := args) (first := s) (o := none) (idx := [i]) (s := s) ev1 ix ha1 hn
  rw [e1, own_ofNc (n := i) (by omega)] at el
  refine ⟨b, by rw [Array.getElem?_toList]; exact el.symm, Eb, ?_⟩
  obtain ⟨x, y, f1, f2, k1, -⟩ := cmp_v (Or.inl qb)
  have f3 : (Term.sub (Term.index 0) (Term.int 128)).eval args s none [i] s = some (.int (Int32.ofNat i - 128)) := by simp [Term.eval, ix]
  obtain rfl : y = .int (Int32.ofNat i - 128) := Option.some.inj (f2.symm.trans f3)
  have ex : x = .int (Int32.ofNat i - 128) := by
    cases x <;> simp [Cond.value, f1, f2] at qb
    rw [qb]
  subst ex
  rw [fld_at e1] at f1
  exact Fld.start f1


theorem own_preL (a b c : Int32) : own_pre (1 + (a &&& (2147483647 : Int32)) % ((2147483647 : Int32) / ((c &&& 15) + 1))) ((c &&& 15) * (1 + (a &&& (2147483647 : Int32)) % ((2147483647 : Int32) / ((c &&& 15) + 1))) + (1 + (b &&& (2147483647 : Int32)) % (1 + (a &&& (2147483647 : Int32)) % ((2147483647 : Int32) / ((c &&& 15) + 1))))) (c &&& 15).toNatClampNeg := by
  rcases own_k16 c with h | h | h | h | h | h | h | h | h | h | h | h | h | h | h | h
  · rw [h]; exact own_pre0 a b
  · rw [h]; exact own_pre1 a b
  · rw [h]; exact own_pre2 a b
  · rw [h]; exact own_pre3 a b
  · rw [h]; exact own_pre4 a b
  · rw [h]; exact own_pre5 a b
  · rw [h]; exact own_pre6 a b
  · rw [h]; exact own_pre7 a b
  · rw [h]; exact own_pre8 a b
  · rw [h]; exact own_pre9 a b
  · rw [h]; exact own_pre10 a b
  · rw [h]; exact own_pre11 a b
  · rw [h]; exact own_pre12 a b
  · rw [h]; exact own_pre13 a b
  · rw [h]; exact own_pre14 a b
  · rw [h]; exact own_pre15 a b
theorem own_kk (c : Int32) : 0 ≤ (c &&& 15).toInt ∧ (c &&& 15).toInt ≤ 15 ∧ ((c &&& 15) + 1).toInt = (c &&& 15).toInt + 1 := by
  have h := c_mask c 15 4 (by decide) (by decide)
  have a := c_iadd (c &&& 15) 1; have r := rng32 ((c &&& 15) + 1)
  simp only [Int32.reduceToInt] at a
  refine ⟨by omega, by omega, by omega⟩
theorem own_nz {x : Int32} (h : 1 ≤ x.toInt) : x ≠ 0 := fun e => by rw [e] at h; simp only [Int32.reduceToInt] at h; omega
theorem own_nz1 (c : Int32) : (c &&& 15) + 1 ≠ 0 := own_nz (by have := own_kk c; omega)
theorem own_nz2 (c : Int32) : (2147483647 : Int32) / ((c &&& 15) + 1) ≠ 0 := by
  rcases own_k16 c with h | h | h | h | h | h | h | h | h | h | h | h | h | h | h | h <;> rw [h] <;> decide
theorem own_nn {x : Int32} (h : 0 ≤ x.toInt) : Int32.ofNat x.toNatClampNeg = x ∧ (x.toNatClampNeg : Int) = x.toInt := by
  have r := rng32 x
  have e : (x.toNatClampNeg : Int) = x.toInt := by show (x.toInt.toNat : Int) = _; omega
  refine ⟨?_, e⟩
  rw [← Int32.toInt_inj, Int32.toInt_ofNat_of_lt (by omega), e]
theorem own_L1 {c : Int32} {n : Nat} (h : n = (c &&& 15).toNatClampNeg + 1) : Int32.ofNat n = (c &&& 15) + 1 := by
  obtain ⟨h1, h2, h3⟩ := own_kk c
  have e := (own_nn h1).2
  rw [← Int32.toInt_inj, own_ofN (n := n) (by omega), h3, h]; omega
theorem own_ix (d c : Int32) : 0 ≤ ((d &&& (2147483647 : Int32)) % ((c &&& 15) + 1)).toInt ∧ ((d &&& (2147483647 : Int32)) % ((c &&& 15) + 1)).toInt ≤ (c &&& 15).toInt := by
  obtain ⟨h1, h2, h3⟩ := own_kk c
  have h := c_mask d 2147483647 31 (by decide) (by decide)
  have q := (c_iremV (d &&& (2147483647 : Int32)) ((c &&& 15) + 1)).1 (by rw [h]; omega) (by omega)
  omega
theorem own_mulB {w e i : Int32} {k : Nat} (h0 : 0 ≤ i.toInt) (hk : i.toInt < (k : Int)) (hk2 : k ≤ 15) (he : 1 ≤ e.toInt) (hm : ((k : Int) + 1) * e.toInt ≤ 2147483647) (hw : w.toInt = ((i.toNatClampNeg : Int) + 1) * e.toInt) : w = (i + 1) * e := by
  rw [(own_nn h0).2] at hw
  have a := c_iadd i 1; have r := rng32 (i + 1)
  simp only [Int32.reduceToInt] at a
  have e1 : (i + 1).toInt = i.toInt + 1 := by omega
  have b := c_imul (i + 1) e; have rb := rng32 ((i + 1) * e)
  rw [e1] at b
  have p1 : 0 ≤ (i.toInt + 1) * e.toInt := Int.mul_nonneg (by omega) (by omega)
  have p2 : (i.toInt + 1) * e.toInt ≤ ((k : Int) + 1) * e.toInt := Int.mul_le_mul_of_nonneg_right (by omega) (by omega)
  rw [← Int32.toInt_inj, hw]; omega
theorem own_IsAt {Z : State} {h : Heap} {bs : List Value} {xs : List Int32} (F : own_Is Z h bs xs) {i : Nat} (hi : i < bs.length) : ∃ b x, bs[i]? = some (.ref b) ∧ xs[i]? = some x ∧ Exa Z h b "java/lang/Integer" ∧ Fld Z h b "java/lang/Integer" "value" "I" (.int x) := by
  obtain ⟨b, x, e1, e2, e3, e4⟩ := F i bs[i] (List.getElem?_eq_getElem hi)
  exact ⟨b, x, by rw [List.getElem?_eq_getElem hi, e1], e2, e3, e4⟩

theorem own_ef27 (m : MethodId) (a1 : Addr) : entryFrame m #[.ref a1] 1 = mkF m 0 #[.val (.ref a1)] [] := by first | (simp [entryFrame, mkF, argsToLocals, Value.category]; done) | rfl
theorem own_d27_0 : decode jdk_33_method_27_code 0 = .ok (.aload_n 0, 1) := by decide +kernel
theorem own_d27_1 : decode jdk_33_method_27_code 1 = .ok (.getfield 205, 3) := by decide +kernel
theorem own_d27_4 : decode jdk_33_method_27_code 4 = .ok (.ireturn, 1) := by decide +kernel
def own_f27 (v0 : Int32) : Int32 := v0
set_option maxRecDepth 65536 in
set_option maxHeartbeats 40000000 in
theorem rm27 (l : Launch) (Z : State) (a0 : Array Value) (hw : ∀ d ∈ tables_1, d.before a0 Z = true) (ws : List Jvm.Cond) (a1 : Addr) (v0 : Int32) (h0 : Heap) (F0p : Fld Z h0 a1 "java/lang/Integer" "value" "I" (.int v0)) :
    MetFree l (⟨"java/lang/Integer", "intValue", "()I"⟩ : MethodName) (head1 (Jvm.Cond.code (⟨"java/lang/Integer", "intValue", "()I"⟩ : MethodName) jdk_33_method_27_code 1 (some .int) :: ws) ({ frames := 0, cells := 0, slots := 0, locals := 0 } : Room)) (fun a U => a = #[.ref a1] ∧ Z.Warmed39 U.vm ∧ U.heap = h0) (fun _ _ _ _ _ => True) (fun _ U o U' => ∃ v L, o = .returned v ∧ own_P (.int (own_f27 v0)) h0 v U'.heap L ∧ FrameEnd U o U' L ({ frames := 0, cells := 0, slots := 0, locals := 0 } : Room).cells ({ frames := 0, cells := 0, slots := 0, locals := 0 } : Room).slots) := by
  refine MetFree.of_bodySF (plainFor_of_name own_pn4) hisR ?_
  intro p e s m args below meth c s₁ Bd hml0 hP hK
  obtain ⟨rfl, hZ, hh⟩ := hP
  have hx := Bd.exec
  have hby := Bd.bytes
  have hml : c.maxLocals = 1 := hml0
  have hown : s.vm.findClass "java/lang/Integer" = some m.cls := findClass_of_methodNamed Bd.named
  have hnm := (name_of_methodNamed Bd.named Bd.method).1
  have hlk : meth.locks = false := BodyLoose.notSynchronized Bd
  have X0 : Stand p l e ({ frames := 0, cells := 0, slots := 0, locals := 0 } : Room) s m #[.ref a1] below meth c s₁ [] 0 0 := Stand.of_body Bd
  have e0 : s₁.heap = h0 := by rw [← hh, Bd.state]; rfl
  show own_Go p e below (own_E s 0 0 (own_P (.int (own_f27 v0)) h0)) (s₁.setTop (entryFrame m #[.ref a1] 1))
  rw [own_ef27]
  refine own_aloadN X0 hx (hb hby own_d27_0) (q := 1) rfl rfl rfl ?_
  refine own_getF X0 hx hZ hown (host := "") (Or.inl (hw _ (List.mem_of_getElem? (i := 185) rfl))) Via.refl e0 F0p (hb hby own_d27_1) (q := 4) rfl (fun T1046 X1047 e1048 => ?_)
  refine own_retI X1047 hx hlk Bd.returns (hb hby own_d27_4) ?_ (by decide) (by decide)
  have r : own_f27 v0 = v0 := by rw [own_f27]
  exact ⟨by rw [r] <;> rfl, e1048, rfl⟩
theorem own_pd13 : parseMethodDescriptor "(II)Ljava/util/List;" = some ⟨[.int, .int], some (.object "java/util/List")⟩ := by decide +kernel
theorem own_pd14 : parseMethodDescriptor "()I" = some ⟨[], some .int⟩ := by decide +kernel
theorem own_pn35 : plainName "com/example/measured_crawler/measuredcrawler/eval/measure/TrajectoryCheckpointsPinLaw" = true := by first | (simp [plainName, overriddenIn]; done) | decide +kernel
theorem own_ef0 (m : MethodId) (p1 : Int32) (p2 : Int32) (p3 : Int32) (p4 : Int32) : entryFrame m #[.int p1, .int p2, .int p3, .int p4] maxLocals = mkF m 0 #[.val (.int p1), .val (.int p2), .val (.int p3), .val (.int p4), .unset, .unset, .unset, .unset, .unset, .unset, .unset, .unset] [] := by first | (simp [entryFrame, mkF, argsToLocals, Value.category, maxLocals]; done) | rfl
def own_Q0 (n0 : Nat) (v : Option Value) (h : Heap) (L : List Loc) : Prop := v = some (.int 1) ∧ Fr n0 L
set_option maxRecDepth 65536 in
set_option maxHeartbeats 40000000 in
theorem rm0 (l : Launch) (Z : State) (a0 : Array Value) (hw : ∀ d ∈ tables_1, d.before a0 Z = true) (ws : List Jvm.Cond) (p1 : Int32) (p2 : Int32) (p3 : Int32) (p4 : Int32) (h0 : Heap) (n0 : Nat) (Z0 : n0 ≤ h0.size) {dc ca em : Addr} {cv : List Value} (hmir : Jvm.ShelfD.MirrorMade Z "[Ljava/lang/Object;") (SS0 : own_SS Z h0 n0 dc ca em cv) :
    MetFree l x (head1 (Jvm.Cond.code x code maxLocals ret :: ws) room_1) (fun a U => a = #[.int p1, .int p2, .int p3, .int p4] ∧ Z.Warmed39 U.vm ∧ U.heap = h0) (fun _ _ _ _ _ => True) (fun _ U o U' => ∃ v L, o = .returned v ∧ own_Q0 n0 v U'.heap L ∧ FrameEnd U o U' L 56 320) := by
  refine MetFree.of_bodySF (plainFor_of_name own_pn35) hisR ?_
  intro p e s m args below meth c s₁ Bd hml0 hP hK
  obtain ⟨rfl, hZ, hh⟩ := hP
  have hx := Bd.exec
  have hby := Bd.bytes
  have hml : c.maxLocals = 12 := hml0
  have hown : s.vm.findClass "com/example/measured_crawler/measuredcrawler/eval/measure/TrajectoryCheckpointsPinLaw" = some m.cls := findClass_of_methodNamed Bd.named
  have hnm := (name_of_methodNamed Bd.named Bd.method).1
  have hlk : meth.locks = false := BodyLoose.notSynchronized Bd
  have X0 : Stand p l e room_1 s m #[.int p1, .int p2, .int p3, .int p4] below meth c s₁ [] 0 0 := Stand.of_body Bd
  have e0 : s₁.heap = h0 := by rw [← hh, Bd.state]; rfl
  have N0 := Fr.nil n0
  show own_Go p e below (own_E s 56 320 (own_Q0 n0)) (s₁.setTop (entryFrame m #[.int p1, .int p2, .int p3, .int p4] maxLocals))
  rw [own_ef0]
  refine own_iloadN X0 hx (hb hby at_0) (q := 1) rfl rfl ?_
  refine own_bipush X0 hx (v := (15 : Int32)) (hb hby at_1) (q := 3) rfl rfl ?_
  refine own_iand X0 hx (hb hby at_3) (q := 4) rfl ?_
  refine own_istore (L' := #[.val (.int p1), .val (.int p2), .val (.int p3), .val (.int p4), .val (.int (p3 &&& (15 : Int32))), .unset, .unset, .unset, .unset, .unset, .unset, .unset]) X0 hx (hb hby at_4) (q := 6) rfl rfl ?_
  refine own_ldc X0 hx hZ hown (hw _ (List.mem_of_getElem? (i := 0) rfl)) (hb hby at_6) (q := 8) rfl ?_
  refine own_iload X0 hx (hb hby at_8) (q := 10) rfl rfl ?_
  refine own_iconst X0 hx (v := (1 : Int32)) (hb hby at_10) (q := 11) rfl rfl ?_
  refine own_iadd X0 hx (hb hby at_11) (q := 12) rfl ?_
  refine own_idiv X0 hx (hb hby at_12) (q := 13) rfl (own_nz1 p3) ?_
  refine own_istore (L' := #[.val (.int p1), .val (.int p2), .val (.int p3), .val (.int p4), .val (.int (p3 &&& (15 : Int32))), .val (.int ((2147483647 : Int32) / ((p3 &&& (15 : Int32)) + (1 : Int32)))), .unset, .unset, .unset, .unset, .unset, .unset]) X0 hx (hb hby at_13) (q := 15) rfl rfl ?_
  refine own_iconst X0 hx (v := (1 : Int32)) (hb hby at_15) (q := 16) rfl rfl ?_
  refine own_iloadN X0 hx (hb hby at_16) (q := 17) rfl rfl ?_
  refine own_ldc X0 hx hZ hown (hw _ (List.mem_of_getElem? (i := 0) rfl)) (hb hby at_17) (q := 19) rfl ?_
  refine own_iand X0 hx (hb hby at_19) (q := 20) rfl ?_
  refine own_iload X0 hx (hb hby at_20) (q := 22) rfl rfl ?_
  refine own_irem X0 hx (hb hby at_22) (q := 23) rfl (own_nz2 p3) ?_
  refine own_iadd X0 hx (hb hby at_23) (q := 24) rfl ?_
  refine own_istore (L' := #[.val (.int p1), .val (.int p2), .val (.int p3), .val (.int p4), .val (.int (p3 &&& (15 : Int32))), .val (.int ((2147483647 : Int32) / ((p3 &&& (15 : Int32)) + (1 : Int32)))), .val (.int ((1 : Int32) + ((p1 &&& (2147483647 : Int32)) % ((2147483647 : Int32) / ((p3 &&& (15 : Int32)) + (1 : Int32)))))), .unset, .unset, .unset, .unset, .unset]) X0 hx (hb hby at_24) (q := 26) rfl rfl ?_
  refine own_iconst X0 hx (v := (1 : Int32)) (hb hby at_26) (q := 27) rfl rfl ?_
  refine own_iloadN X0 hx (hb hby at_27) (q := 28) rfl rfl ?_
  refine own_ldc X0 hx hZ hown (hw _ (List.mem_of_getElem? (i := 0) rfl)) (hb hby at_28) (q := 30) rfl ?_
  refine own_iand X0 hx (hb hby at_30) (q := 31) rfl ?_
  refine own_iload X0 hx (hb hby at_31) (q := 33) rfl rfl ?_
  refine own_irem X0 hx (hb hby at_33) (q := 34) rfl (own_nz (own_preL p1 p2 p3).2.1) ?_
  refine own_iadd X0 hx (hb hby at_34) (q := 35) rfl ?_
  refine own_istore (L' := #[.val (.int p1), .val (.int p2), .val (.int p3), .val (.int p4), .val (.int (p3 &&& (15 : Int32))), .val (.int ((2147483647 : Int32) / ((p3 &&& (15 : Int32)) + (1 : Int32)))), .val (.int ((1 : Int32) + ((p1 &&& (2147483647 : Int32)) % ((2147483647 : Int32) / ((p3 &&& (15 : Int32)) + (1 : Int32)))))), .val (.int ((1 : Int32) + ((p2 &&& (2147483647 : Int32)) % ((1 : Int32) + ((p1 &&& (2147483647 : Int32)) % ((2147483647 : Int32) / ((p3 &&& (15 : Int32)) + (1 : Int32)))))))), .unset, .unset, .unset, .unset]) X0 hx (hb hby at_35) (q := 37) rfl rfl ?_
  refine own_iload X0 hx (hb hby at_37) (q := 39) rfl rfl ?_
  refine own_iload X0 hx (hb hby at_39) (q := 41) rfl rfl ?_
  refine own_imul X0 hx (hb hby at_41) (q := 42) rfl ?_
  refine own_iload X0 hx (hb hby at_42) (q := 44) rfl rfl ?_
  refine own_iadd X0 hx (hb hby at_44) (q := 45) rfl ?_
  refine own_istore (L' := #[.val (.int p1), .val (.int p2), .val (.int p3), .val (.int p4), .val (.int (p3 &&& (15 : Int32))), .val (.int ((2147483647 : Int32) / ((p3 &&& (15 : Int32)) + (1 : Int32)))), .val (.int ((1 : Int32) + ((p1 &&& (2147483647 : Int32)) % ((2147483647 : Int32) / ((p3 &&& (15 : Int32)) + (1 : Int32)))))), .val (.int ((1 : Int32) + ((p2 &&& (2147483647 : Int32)) % ((1 : Int32) + ((p1 &&& (2147483647 : Int32)) % ((2147483647 : Int32) / ((p3 &&& (15 : Int32)) + (1 : Int32)))))))), .val (.int (((p3 &&& (15 : Int32)) * ((1 : Int32) + ((p1 &&& (2147483647 : Int32)) % ((2147483647 : Int32) / ((p3 &&& (15 : Int32)) + (1 : Int32)))))) + ((1 : Int32) + ((p2 &&& (2147483647 : Int32)) % ((1 : Int32) + ((p1 &&& (2147483647 : Int32)) % ((2147483647 : Int32) / ((p3 &&& (15 : Int32)) + (1 : Int32))))))))), .unset, .unset, .unset]) X0 hx (hb hby at_45) (q := 47) rfl rfl ?_
  refine own_iload X0 hx (hb hby at_47) (q := 49) rfl rfl ?_
  refine own_iload X0 hx (hb hby at_49) (q := 51) rfl rfl ?_
  refine own_callS X0 hx hZ hown (hw _ (List.mem_of_getElem? (i := 1) rfl)) (hw _ (List.mem_of_getElem? (i := 2) rfl)) (hw _ (List.mem_of_getElem? (i := 3) rfl)) (hw _ (List.mem_of_getElem? (i := 4) rfl)) (by decide) (rm1 l Z a0 hw [] ((1 : Int32) + ((p1 &&& (2147483647 : Int32)) % ((2147483647 : Int32) / ((p3 &&& (15 : Int32)) + (1 : Int32))))) (((p3 &&& (15 : Int32)) * ((1 : Int32) + ((p1 &&& (2147483647 : Int32)) % ((2147483647 : Int32) / ((p3 &&& (15 : Int32)) + (1 : Int32)))))) + ((1 : Int32) + ((p2 &&& (2147483647 : Int32)) % ((1 : Int32) + ((p1 &&& (2147483647 : Int32)) % ((2147483647 : Int32) / ((p3 &&& (15 : Int32)) + (1 : Int32)))))))) (p3 &&& (15 : Int32)).toNatClampNeg dc ca em cv h0 n0 Z0 hmir SS0 (own_preL p1 p2 p3)) own_pd13 rfl e0 (by rw [hml]; rfl) (argsL := [.int ((1 : Int32) + ((p1 &&& (2147483647 : Int32)) % ((2147483647 : Int32) / ((p3 &&& (15 : Int32)) + (1 : Int32))))), .int (((p3 &&& (15 : Int32)) * ((1 : Int32) + ((p1 &&& (2147483647 : Int32)) % ((2147483647 : Int32) / ((p3 &&& (15 : Int32)) + (1 : Int32)))))) + ((1 : Int32) + ((p2 &&& (2147483647 : Int32)) % ((1 : Int32) + ((p1 &&& (2147483647 : Int32)) % ((2147483647 : Int32) / ((p3 &&& (15 : Int32)) + (1 : Int32))))))))]) (st := []) rfl (W := 0) (Nat.le_of_eq rfl) (by decide) (by decide) (by decide) (by decide) (hb hby at_51) (q := 54) rfl (fun v1055 T1056 L1057 X1058 hQ1059 => ?_)
  obtain ⟨a1061, bs, xs, rfl, N1, I1, Is1, hbl, hxk, S9⟩ := hQ1059
  have N1060 := Fr.app N0 N1
  show own_Go p e below (own_E s 56 320 (own_Q0 n0)) (T1056.setTop (mkF m 54 #[.val (.int p1), .val (.int p2), .val (.int p3), .val (.int p4), .val (.int (p3 &&& (15 : Int32))), .val (.int ((2147483647 : Int32) / ((p3 &&& (15 : Int32)) + (1 : Int32)))), .val (.int ((1 : Int32) + ((p1 &&& (2147483647 : Int32)) % ((2147483647 : Int32) / ((p3 &&& (15 : Int32)) + (1 : Int32)))))), .val (.int ((1 : Int32) + ((p2 &&& (2147483647 : Int32)) % ((1 : Int32) + ((p1 &&& (2147483647 : Int32)) % ((2147483647 : Int32) / ((p3 &&& (15 : Int32)) + (1 : Int32)))))))), .val (.int (((p3 &&& (15 : Int32)) * ((1 : Int32) + ((p1 &&& (2147483647 : Int32)) % ((2147483647 : Int32) / ((p3 &&& (15 : Int32)) + (1 : Int32)))))) + ((1 : Int32) + ((p2 &&& (2147483647 : Int32)) % ((1 : Int32) + ((p1 &&& (2147483647 : Int32)) % ((2147483647 : Int32) / ((p3 &&& (15 : Int32)) + (1 : Int32))))))))), .unset, .unset, .unset] [.ref a1061]))
  obtain ⟨hk15, hp1, hpk, hpl, hpu⟩ := own_preL p1 p2 p3
  have hkk := own_kk p3
  have hkn := own_nn hkk.1
  refine own_astore (L' := #[.val (.int p1), .val (.int p2), .val (.int p3), .val (.int p4), .val (.int (p3 &&& (15 : Int32))), .val (.int ((2147483647 : Int32) / ((p3 &&& (15 : Int32)) + (1 : Int32)))), .val (.int ((1 : Int32) + ((p1 &&& (2147483647 : Int32)) % ((2147483647 : Int32) / ((p3 &&& (15 : Int32)) + (1 : Int32)))))), .val (.int ((1 : Int32) + ((p2 &&& (2147483647 : Int32)) % ((1 : Int32) + ((p1 &&& (2147483647 : Int32)) % ((2147483647 : Int32) / ((p3 &&& (15 : Int32)) + (1 : Int32)))))))), .val (.int (((p3 &&& (15 : Int32)) * ((1 : Int32) + ((p1 &&& (2147483647 : Int32)) % ((2147483647 : Int32) / ((p3 &&& (15 : Int32)) + (1 : Int32)))))) + ((1 : Int32) + ((p2 &&& (2147483647 : Int32)) % ((1 : Int32) + ((p1 &&& (2147483647 : Int32)) % ((2147483647 : Int32) / ((p3 &&& (15 : Int32)) + (1 : Int32))))))))), .val (.ref a1061), .unset, .unset]) X1058 hx (hb hby at_54) (q := 56) rfl rfl rfl ?_
  refine own_aload X1058 hx (hb hby at_56) (q := 58) rfl rfl rfl ?_
  refine own_immSize X1058 hx hZ hown hw (by decide +kernel) rfl I1 S9 (n := (p3 &&& (15 : Int32)) + (1 : Int32)) (own_L1 hbl) (by rw [hml]; rfl) (W := 0) (Nat.le_of_eq rfl) (by decide) (by decide) (by decide) (by decide) (hb hby at_58) (q := 63) rfl (fun T1062 X1063 e1064 => ?_)
  refine own_iload X1063 hx (hb hby at_63) (q := 65) rfl rfl ?_
  refine own_iconst X1063 hx (v := (1 : Int32)) (hb hby at_65) (q := 66) rfl rfl ?_
  refine own_iadd X1063 hx (hb hby at_66) (q := 67) rfl ?_
  refine own_icmpP X1063 hx (hb hby at_67) (cd := .eq) (x := (p3 &&& (15 : Int32)) + (1 : Int32)) (y := (p3 &&& (15 : Int32)) + (1 : Int32)) (pt := 72) (q := 70) (by decide) (by decide) rfl rfl (fun _ => ?_) (fun h => False.elim (h (rfl : ((p3 &&& (15 : Int32)) + (1 : Int32)) = ((p3 &&& (15 : Int32)) + (1 : Int32)))))
  refine own_aload X1063 hx (hb hby at_72) (q := 74) rfl rfl rfl ?_
  refine own_iload X1063 hx (hb hby at_74) (q := 76) rfl rfl ?_
  have hi76 : (p3 &&& (15 : Int32)).toNatClampNeg < bs.length := by rw [hbl]; omega
  obtain ⟨b1068, x1069, q1070, q1071, E1072, F1073⟩ := own_IsAt Is1 hi76
  have q1074 : x1069 = ((p3 &&& (15 : Int32)) * ((1 : Int32) + ((p1 &&& (2147483647 : Int32)) % ((2147483647 : Int32) / ((p3 &&& (15 : Int32)) + (1 : Int32)))))) + ((1 : Int32) + ((p2 &&& (2147483647 : Int32)) % ((1 : Int32) + ((p1 &&& (2147483647 : Int32)) % ((2147483647 : Int32) / ((p3 &&& (15 : Int32)) + (1 : Int32))))))) := (hxk _ _ q1071).2 rfl
  subst q1074
  refine own_immGet X1063 hx hZ hown hw (by decide +kernel) e1064 I1 S9 (n := p3 &&& (15 : Int32)) hkn.1 q1070 (by rw [hml]; rfl) (W := 0) (Nat.le_of_eq rfl) (by decide) (by decide) (by decide) (by decide) (hb hby at_76) (q := 81) rfl (fun T1065 X1066 e1067 => ?_)
  refine own_cast X1066 hx hZ hown (hw _ (List.mem_of_getElem? (i := 178) rfl)) e1067 (Ins.self E1072) (hb hby at_81) (q := 84) rfl (fun T1075 X1076 e1077 => ?_)
  refine own_callVP X1076 hx hZ hown (hw _ (List.mem_of_getElem? (i := 180) rfl)) (hw _ (List.mem_of_getElem? (i := 181) rfl)) (hw _ (List.mem_of_getElem? (i := 183) rfl)) (hw _ (List.mem_of_getElem? (i := 183) rfl)) (hw _ (List.mem_of_getElem? (i := 182) rfl)) (hw _ (List.mem_of_getElem? (i := 33) rfl)) (hw _ (List.mem_of_getElem? (i := 184) rfl)) E1072 (by decide) (rm27 l Z a0 hw [] b1068 (((p3 &&& (15 : Int32)) * ((1 : Int32) + ((p1 &&& (2147483647 : Int32)) % ((2147483647 : Int32) / ((p3 &&& (15 : Int32)) + (1 : Int32)))))) + ((1 : Int32) + ((p2 &&& (2147483647 : Int32)) % ((1 : Int32) + ((p1 &&& (2147483647 : Int32)) % ((2147483647 : Int32) / ((p3 &&& (15 : Int32)) + (1 : Int32)))))))) T1056.heap F1073) own_pd14 rfl e1077 (by rw [hml]; rfl) (argsL := []) (st := []) rfl (W := 0) (Nat.le_of_eq rfl) (by decide) (by decide) (by decide) (by decide) (hb hby at_84) (q := 87) rfl (fun T1078 X1079 e1080 => ?_)
  refine own_iload X1079 hx (hb hby at_87) (q := 89) rfl rfl ?_
  refine own_icmpP X1079 hx (hb hby at_89) (cd := .eq) (x := own_f27 (((p3 &&& (15 : Int32)) * ((1 : Int32) + ((p1 &&& (2147483647 : Int32)) % ((2147483647 : Int32) / ((p3 &&& (15 : Int32)) + (1 : Int32)))))) + ((1 : Int32) + ((p2 &&& (2147483647 : Int32)) % ((1 : Int32) + ((p1 &&& (2147483647 : Int32)) % ((2147483647 : Int32) / ((p3 &&& (15 : Int32)) + (1 : Int32))))))))) (y := ((p3 &&& (15 : Int32)) * ((1 : Int32) + ((p1 &&& (2147483647 : Int32)) % ((2147483647 : Int32) / ((p3 &&& (15 : Int32)) + (1 : Int32)))))) + ((1 : Int32) + ((p2 &&& (2147483647 : Int32)) % ((1 : Int32) + ((p1 &&& (2147483647 : Int32)) % ((2147483647 : Int32) / ((p3 &&& (15 : Int32)) + (1 : Int32)))))))) (pt := 94) (q := 92) (by decide) (by decide) rfl rfl (fun _ => ?_) (fun h => False.elim (h (rfl : (own_f27 (((p3 &&& (15 : Int32)) * ((1 : Int32) + ((p1 &&& (2147483647 : Int32)) % ((2147483647 : Int32) / ((p3 &&& (15 : Int32)) + (1 : Int32)))))) + ((1 : Int32) + ((p2 &&& (2147483647 : Int32)) % ((1 : Int32) + ((p1 &&& (2147483647 : Int32)) % ((2147483647 : Int32) / ((p3 &&& (15 : Int32)) + (1 : Int32))))))))) = (((p3 &&& (15 : Int32)) * ((1 : Int32) + ((p1 &&& (2147483647 : Int32)) % ((2147483647 : Int32) / ((p3 &&& (15 : Int32)) + (1 : Int32)))))) + ((1 : Int32) + ((p2 &&& (2147483647 : Int32)) % ((1 : Int32) + ((p1 &&& (2147483647 : Int32)) % ((2147483647 : Int32) / ((p3 &&& (15 : Int32)) + (1 : Int32)))))))))))
  refine own_iloadN X1079 hx (hb hby at_94) (q := 95) rfl rfl ?_
  refine own_ldc X1079 hx hZ hown (hw _ (List.mem_of_getElem? (i := 0) rfl)) (hb hby at_95) (q := 97) rfl ?_
  refine own_iand X1079 hx (hb hby at_97) (q := 98) rfl ?_
  refine own_iload X1079 hx (hb hby at_98) (q := 100) rfl rfl ?_
  refine own_iconst X1079 hx (v := (1 : Int32)) (hb hby at_100) (q := 101) rfl rfl ?_
  refine own_iadd X1079 hx (hb hby at_101) (q := 102) rfl ?_
  refine own_irem X1079 hx (hb hby at_102) (q := 103) rfl (own_nz1 p3) ?_
  refine own_istore (L' := #[.val (.int p1), .val (.int p2), .val (.int p3), .val (.int p4), .val (.int (p3 &&& (15 : Int32))), .val (.int ((2147483647 : Int32) / ((p3 &&& (15 : Int32)) + (1 : Int32)))), .val (.int ((1 : Int32) + ((p1 &&& (2147483647 : Int32)) % ((2147483647 : Int32) / ((p3 &&& (15 : Int32)) + (1 : Int32)))))), .val (.int ((1 : Int32) + ((p2 &&& (2147483647 : Int32)) % ((1 : Int32) + ((p1 &&& (2147483647 : Int32)) % ((2147483647 : Int32) / ((p3 &&& (15 : Int32)) + (1 : Int32)))))))), .val (.int (((p3 &&& (15 : Int32)) * ((1 : Int32) + ((p1 &&& (2147483647 : Int32)) % ((2147483647 : Int32) / ((p3 &&& (15 : Int32)) + (1 : Int32)))))) + ((1 : Int32) + ((p2 &&& (2147483647 : Int32)) % ((1 : Int32) + ((p1 &&& (2147483647 : Int32)) % ((2147483647 : Int32) / ((p3 &&& (15 : Int32)) + (1 : Int32))))))))), .val (.ref a1061), .val (.int ((p4 &&& (2147483647 : Int32)) % ((p3 &&& (15 : Int32)) + (1 : Int32)))), .unset]) X1079 hx (hb hby at_103) (q := 105) rfl rfl ?_
  refine own_iload X1079 hx (hb hby at_105) (q := 107) rfl rfl ?_
  refine own_iload X1079 hx (hb hby at_107) (q := 109) rfl rfl ?_
  refine own_icmpM X1079 hx (hb hby at_109) (cd := .ge) (x := (p4 &&& (2147483647 : Int32)) % ((p3 &&& (15 : Int32)) + (1 : Int32))) (y := p3 &&& (15 : Int32)) (pt := 122) (q := 112) (by decide) (by decide) rfl rfl (fun (c3 : ¬ (((p4 &&& (2147483647 : Int32)) % ((p3 &&& (15 : Int32)) + (1 : Int32))) < (p3 &&& (15 : Int32)))) => ?_) (fun (c3 : ((p4 &&& (2147483647 : Int32)) % ((p3 &&& (15 : Int32)) + (1 : Int32))) < (p3 &&& (15 : Int32))) => ?_)
  · refine own_iload X1079 hx (hb hby at_122) (q := 124) rfl rfl ?_
    refine own_istore (L' := #[.val (.int p1), .val (.int p2), .val (.int p3), .val (.int p4), .val (.int (p3 &&& (15 : Int32))), .val (.int ((2147483647 : Int32) / ((p3 &&& (15 : Int32)) + (1 : Int32)))), .val (.int ((1 : Int32) + ((p1 &&& (2147483647 : Int32)) % ((2147483647 : Int32) / ((p3 &&& (15 : Int32)) + (1 : Int32)))))), .val (.int ((1 : Int32) + ((p2 &&& (2147483647 : Int32)) % ((1 : Int32) + ((p1 &&& (2147483647 : Int32)) % ((2147483647 : Int32) / ((p3 &&& (15 : Int32)) + (1 : Int32)))))))), .val (.int (((p3 &&& (15 : Int32)) * ((1 : Int32) + ((p1 &&& (2147483647 : Int32)) % ((2147483647 : Int32) / ((p3 &&& (15 : Int32)) + (1 : Int32)))))) + ((1 : Int32) + ((p2 &&& (2147483647 : Int32)) % ((1 : Int32) + ((p1 &&& (2147483647 : Int32)) % ((2147483647 : Int32) / ((p3 &&& (15 : Int32)) + (1 : Int32))))))))), .val (.ref a1061), .val (.int ((p4 &&& (2147483647 : Int32)) % ((p3 &&& (15 : Int32)) + (1 : Int32)))), .val (.int (((p3 &&& (15 : Int32)) * ((1 : Int32) + ((p1 &&& (2147483647 : Int32)) % ((2147483647 : Int32) / ((p3 &&& (15 : Int32)) + (1 : Int32)))))) + ((1 : Int32) + ((p2 &&& (2147483647 : Int32)) % ((1 : Int32) + ((p1 &&& (2147483647 : Int32)) % ((2147483647 : Int32) / ((p3 &&& (15 : Int32)) + (1 : Int32)))))))))]) X1079 hx (hb hby at_124) (q := 126) rfl rfl ?_
    refine own_aload X1079 hx (hb hby at_126) (q := 128) rfl rfl rfl ?_
    refine own_iload X1079 hx (hb hby at_128) (q := 130) rfl rfl ?_
    have hix := own_ix p4 p3
    have hin := own_nn hix.1
    have hi130 : ((p4 &&& (2147483647 : Int32)) % ((p3 &&& (15 : Int32)) + (1 : Int32))).toNatClampNeg < bs.length := by rw [hbl]; omega
    obtain ⟨b1084, x1085, q1086, q1087, E1088, F1089⟩ := own_IsAt Is1 hi130
    have q1090 : x1085 = ((p3 &&& (15 : Int32)) * ((1 : Int32) + ((p1 &&& (2147483647 : Int32)) % ((2147483647 : Int32) / ((p3 &&& (15 : Int32)) + (1 : Int32)))))) + ((1 : Int32) + ((p2 &&& (2147483647 : Int32)) % ((1 : Int32) + ((p1 &&& (2147483647 : Int32)) % ((2147483647 : Int32) / ((p3 &&& (15 : Int32)) + (1 : Int32))))))) := (hxk _ _ q1087).2 (by have q0 : ¬ ((p4 &&& (2147483647 : Int32)) % ((p3 &&& (15 : Int32)) + (1 : Int32))) < (p3 &&& (15 : Int32)) := c3; rw [Int32.lt_iff_toInt_lt] at q0; omega)
    subst q1090
    refine own_immGet X1079 hx hZ hown hw (by decide +kernel) e1080 I1 S9 (n := (p4 &&& (2147483647 : Int32)) % ((p3 &&& (15 : Int32)) + (1 : Int32))) hin.1 q1086 (by rw [hml]; rfl) (W := 0) (Nat.le_of_eq rfl) (by decide) (by decide) (by decide) (by decide) (hb hby at_130) (q := 135) rfl (fun T1081 X1082 e1083 => ?_)
    refine own_cast X1082 hx hZ hown (hw _ (List.mem_of_getElem? (i := 178) rfl)) e1083 (Ins.self E1088) (hb hby at_135) (q := 138) rfl (fun T1091 X1092 e1093 => ?_)
    refine own_callVP X1092 hx hZ hown (hw _ (List.mem_of_getElem? (i := 180) rfl)) (hw _ (List.mem_of_getElem? (i := 181) rfl)) (hw _ (List.mem_of_getElem? (i := 183) rfl)) (hw _ (List.mem_of_getElem? (i := 183) rfl)) (hw _ (List.mem_of_getElem? (i := 182) rfl)) (hw _ (List.mem_of_getElem? (i := 33) rfl)) (hw _ (List.mem_of_getElem? (i := 184) rfl)) E1088 (by decide) (rm27 l Z a0 hw [] b1084 (((p3 &&& (15 : Int32)) * ((1 : Int32) + ((p1 &&& (2147483647 : Int32)) % ((2147483647 : Int32) / ((p3 &&& (15 : Int32)) + (1 : Int32)))))) + ((1 : Int32) + ((p2 &&& (2147483647 : Int32)) % ((1 : Int32) + ((p1 &&& (2147483647 : Int32)) % ((2147483647 : Int32) / ((p3 &&& (15 : Int32)) + (1 : Int32)))))))) T1056.heap F1089) own_pd14 rfl e1093 (by rw [hml]; rfl) (argsL := []) (st := []) rfl (W := 0) (Nat.le_of_eq rfl) (by decide) (by decide) (by decide) (by decide) (hb hby at_138) (q := 141) rfl (fun T1094 X1095 e1096 => ?_)
    refine own_iload X1095 hx (hb hby at_141) (q := 143) rfl rfl ?_
    refine own_icmpM X1095 hx (hb hby at_143) (cd := .ne) (x := own_f27 (((p3 &&& (15 : Int32)) * ((1 : Int32) + ((p1 &&& (2147483647 : Int32)) % ((2147483647 : Int32) / ((p3 &&& (15 : Int32)) + (1 : Int32)))))) + ((1 : Int32) + ((p2 &&& (2147483647 : Int32)) % ((1 : Int32) + ((p1 &&& (2147483647 : Int32)) % ((2147483647 : Int32) / ((p3 &&& (15 : Int32)) + (1 : Int32))))))))) (y := ((p3 &&& (15 : Int32)) * ((1 : Int32) + ((p1 &&& (2147483647 : Int32)) % ((2147483647 : Int32) / ((p3 &&& (15 : Int32)) + (1 : Int32)))))) + ((1 : Int32) + ((p2 &&& (2147483647 : Int32)) % ((1 : Int32) + ((p1 &&& (2147483647 : Int32)) % ((2147483647 : Int32) / ((p3 &&& (15 : Int32)) + (1 : Int32)))))))) (pt := 150) (q := 146) (by decide) (by decide) rfl rfl (fun h => False.elim (h (rfl : (own_f27 (((p3 &&& (15 : Int32)) * ((1 : Int32) + ((p1 &&& (2147483647 : Int32)) % ((2147483647 : Int32) / ((p3 &&& (15 : Int32)) + (1 : Int32)))))) + ((1 : Int32) + ((p2 &&& (2147483647 : Int32)) % ((1 : Int32) + ((p1 &&& (2147483647 : Int32)) % ((2147483647 : Int32) / ((p3 &&& (15 : Int32)) + (1 : Int32))))))))) = (((p3 &&& (15 : Int32)) * ((1 : Int32) + ((p1 &&& (2147483647 : Int32)) % ((2147483647 : Int32) / ((p3 &&& (15 : Int32)) + (1 : Int32)))))) + ((1 : Int32) + ((p2 &&& (2147483647 : Int32)) % ((1 : Int32) + ((p1 &&& (2147483647 : Int32)) % ((2147483647 : Int32) / ((p3 &&& (15 : Int32)) + (1 : Int32))))))))))) (fun _ => ?_)
    refine own_iconst X1095 hx (v := (1 : Int32)) (hb hby at_146) (q := 147) rfl rfl ?_
    refine own_goto X1095 hx (hb hby at_147) (q := 151) (by decide) (by decide) ?_
    refine own_retN X1095 hx hlk (t := .boolean) (by simp) Bd.returns (hb hby at_151) ?_ (by decide) (by decide)
    exact ⟨rfl, N1060⟩
  · refine own_iload X1079 hx (hb hby at_112) (q := 114) rfl rfl ?_
    refine own_iconst X1079 hx (v := (1 : Int32)) (hb hby at_114) (q := 115) rfl rfl ?_
    refine own_iadd X1079 hx (hb hby at_115) (q := 116) rfl ?_
    refine own_iload X1079 hx (hb hby at_116) (q := 118) rfl rfl ?_
    refine own_imul X1079 hx (hb hby at_118) (q := 119) rfl ?_
    refine own_goto X1079 hx (hb hby at_119) (q := 124) (by decide) (by decide) ?_
    refine own_istore (L' := #[.val (.int p1), .val (.int p2), .val (.int p3), .val (.int p4), .val (.int (p3 &&& (15 : Int32))), .val (.int ((2147483647 : Int32) / ((p3 &&& (15 : Int32)) + (1 : Int32)))), .val (.int ((1 : Int32) + ((p1 &&& (2147483647 : Int32)) % ((2147483647 : Int32) / ((p3 &&& (15 : Int32)) + (1 : Int32)))))), .val (.int ((1 : Int32) + ((p2 &&& (2147483647 : Int32)) % ((1 : Int32) + ((p1 &&& (2147483647 : Int32)) % ((2147483647 : Int32) / ((p3 &&& (15 : Int32)) + (1 : Int32)))))))), .val (.int (((p3 &&& (15 : Int32)) * ((1 : Int32) + ((p1 &&& (2147483647 : Int32)) % ((2147483647 : Int32) / ((p3 &&& (15 : Int32)) + (1 : Int32)))))) + ((1 : Int32) + ((p2 &&& (2147483647 : Int32)) % ((1 : Int32) + ((p1 &&& (2147483647 : Int32)) % ((2147483647 : Int32) / ((p3 &&& (15 : Int32)) + (1 : Int32))))))))), .val (.ref a1061), .val (.int ((p4 &&& (2147483647 : Int32)) % ((p3 &&& (15 : Int32)) + (1 : Int32)))), .val (.int ((((p4 &&& (2147483647 : Int32)) % ((p3 &&& (15 : Int32)) + (1 : Int32))) + (1 : Int32)) * ((1 : Int32) + ((p1 &&& (2147483647 : Int32)) % ((2147483647 : Int32) / ((p3 &&& (15 : Int32)) + (1 : Int32)))))))]) X1079 hx (hb hby at_124) (q := 126) rfl rfl ?_
    refine own_aload X1079 hx (hb hby at_126) (q := 128) rfl rfl rfl ?_
    refine own_iload X1079 hx (hb hby at_128) (q := 130) rfl rfl ?_
    have hix := own_ix p4 p3
    have hin := own_nn hix.1
    have hi130 : ((p4 &&& (2147483647 : Int32)) % ((p3 &&& (15 : Int32)) + (1 : Int32))).toNatClampNeg < bs.length := by rw [hbl]; omega
    obtain ⟨b1100, x1101, q1102, q1103, E1104, F1105⟩ := own_IsAt Is1 hi130
    have q1106 : x1101 = (((p4 &&& (2147483647 : Int32)) % ((p3 &&& (15 : Int32)) + (1 : Int32))) + (1 : Int32)) * ((1 : Int32) + ((p1 &&& (2147483647 : Int32)) % ((2147483647 : Int32) / ((p3 &&& (15 : Int32)) + (1 : Int32))))) := own_mulB hix.1 (k := (p3 &&& (15 : Int32)).toNatClampNeg) (by have q0 : ((p4 &&& (2147483647 : Int32)) % ((p3 &&& (15 : Int32)) + (1 : Int32))) < (p3 &&& (15 : Int32)) := c3; rw [Int32.lt_iff_toInt_lt] at q0; omega) hk15 hp1 hpk ((hxk _ _ q1103).1 (by have q0 : ((p4 &&& (2147483647 : Int32)) % ((p3 &&& (15 : Int32)) + (1 : Int32))) < (p3 &&& (15 : Int32)) := c3; rw [Int32.lt_iff_toInt_lt] at q0; omega))
    subst q1106
    refine own_immGet X1079 hx hZ hown hw (by decide +kernel) e1080 I1 S9 (n := (p4 &&& (2147483647 : Int32)) % ((p3 &&& (15 : Int32)) + (1 : Int32))) hin.1 q1102 (by rw [hml]; rfl) (W := 0) (Nat.le_of_eq rfl) (by decide) (by decide) (by decide) (by decide) (hb hby at_130) (q := 135) rfl (fun T1097 X1098 e1099 => ?_)
    refine own_cast X1098 hx hZ hown (hw _ (List.mem_of_getElem? (i := 178) rfl)) e1099 (Ins.self E1104) (hb hby at_135) (q := 138) rfl (fun T1107 X1108 e1109 => ?_)
    refine own_callVP X1108 hx hZ hown (hw _ (List.mem_of_getElem? (i := 180) rfl)) (hw _ (List.mem_of_getElem? (i := 181) rfl)) (hw _ (List.mem_of_getElem? (i := 183) rfl)) (hw _ (List.mem_of_getElem? (i := 183) rfl)) (hw _ (List.mem_of_getElem? (i := 182) rfl)) (hw _ (List.mem_of_getElem? (i := 33) rfl)) (hw _ (List.mem_of_getElem? (i := 184) rfl)) E1104 (by decide) (rm27 l Z a0 hw [] b1100 ((((p4 &&& (2147483647 : Int32)) % ((p3 &&& (15 : Int32)) + (1 : Int32))) + (1 : Int32)) * ((1 : Int32) + ((p1 &&& (2147483647 : Int32)) % ((2147483647 : Int32) / ((p3 &&& (15 : Int32)) + (1 : Int32)))))) T1056.heap F1105) own_pd14 rfl e1109 (by rw [hml]; rfl) (argsL := []) (st := []) rfl (W := 0) (Nat.le_of_eq rfl) (by decide) (by decide) (by decide) (by decide) (hb hby at_138) (q := 141) rfl (fun T1110 X1111 e1112 => ?_)
    refine own_iload X1111 hx (hb hby at_141) (q := 143) rfl rfl ?_
    refine own_icmpM X1111 hx (hb hby at_143) (cd := .ne) (x := own_f27 ((((p4 &&& (2147483647 : Int32)) % ((p3 &&& (15 : Int32)) + (1 : Int32))) + (1 : Int32)) * ((1 : Int32) + ((p1 &&& (2147483647 : Int32)) % ((2147483647 : Int32) / ((p3 &&& (15 : Int32)) + (1 : Int32))))))) (y := (((p4 &&& (2147483647 : Int32)) % ((p3 &&& (15 : Int32)) + (1 : Int32))) + (1 : Int32)) * ((1 : Int32) + ((p1 &&& (2147483647 : Int32)) % ((2147483647 : Int32) / ((p3 &&& (15 : Int32)) + (1 : Int32)))))) (pt := 150) (q := 146) (by decide) (by decide) rfl rfl (fun h => False.elim (h (rfl : (own_f27 ((((p4 &&& (2147483647 : Int32)) % ((p3 &&& (15 : Int32)) + (1 : Int32))) + (1 : Int32)) * ((1 : Int32) + ((p1 &&& (2147483647 : Int32)) % ((2147483647 : Int32) / ((p3 &&& (15 : Int32)) + (1 : Int32))))))) = ((((p4 &&& (2147483647 : Int32)) % ((p3 &&& (15 : Int32)) + (1 : Int32))) + (1 : Int32)) * ((1 : Int32) + ((p1 &&& (2147483647 : Int32)) % ((2147483647 : Int32) / ((p3 &&& (15 : Int32)) + (1 : Int32))))))))) (fun _ => ?_)
    refine own_iconst X1111 hx (v := (1 : Int32)) (hb hby at_146) (q := 147) rfl rfl ?_
    refine own_goto X1111 hx (hb hby at_147) (q := 151) (by decide) (by decide) ?_
    refine own_retN X1111 hx hlk (t := .boolean) (by simp) Bd.returns (hb hby at_151) ?_ (by decide) (by decide)
    exact ⟨rfl, N1060⟩
set_option maxRecDepth 65536 in
set_option maxHeartbeats 40000000 in
theorem comes_1 {Post : Tables → Env → Array Value → State → Outcome → State → Prop} (hpost : ∀ tb e args s v u, (limb_1_1.after args s (.returned v) u = true ∧ limb_1_2.after args s (.returned v) u = true ∧ True) → FrameEnd s (.returned v) u (Jvm.fieldLocs frame_1_writes args s ++ Jvm.arrayLocs frame_1_arrays args s ++ Jvm.staticLocs frame_1_statics s) 56 320 → Post tb e args s (.returned v) u) :
    ArmFor flags0 classFile x code maxLocals ret World_1 tables_1 room_1 Calls_1 rest_1 Pre_1 Post := by
  intro l hfl _ _ p e ha hc hk s m args below hf hA hF happ hP
  obtain ⟨hcalls, hrest, hpre⟩ := hP
  obtain ⟨-, -, -, hnamed, -, -, -, hat⟩ := (Spec.applies_iff hf).mp happ
  obtain ⟨hg, hn⟩ := and_e (Cond.before_iff.mp (show (Jvm.Cond.and given_1 narrow_1).before args s = true from hpre))
  obtain ⟨h1, g0⟩ := and_e hg
  obtain ⟨k0, g1⟩ := and_e g0
  obtain ⟨k1, g2⟩ := and_e g1
  obtain ⟨k2, g3⟩ := and_e g2
  have k3 := g3
  obtain ⟨w0, w1, w2, w3, rfl⟩ : ∃ w0 w1 w2 w3 : Value, args = #[w0, w1, w2, w3] := by
    have hs : args.size = 4 := by simpa [Cond.value, given_1] using h1
    obtain ⟨L⟩ := args
    match L, hs with
    | [w0, w1, w2, w3], _ => exact ⟨w0, w1, w2, w3, rfl⟩
  have hw := fun d (hd : d ∈ tables_1) => atoms_spec (ws := Jvm.Cond.code x code maxLocals ret :: tables_1) hat d (List.mem_cons_of_mem _ hd)
  have hfit : Fit s := fun {y c} hc i hi => by
    obtain ⟨ha, rfl⟩ := Array.getElem?_eq_some_iff.mp hc
    have q := List.all_eq_true.mp ((Array.all_eq_true_iff_forall_mem.mp hF) _ (Array.getElem_mem ha)) i (List.mem_range.mpr hi)
    simpa [Array.getElem?_eq_getElem hi] using q
  obtain ⟨i0, e0⟩ := is_v k0
  obtain rfl : w0 = (.int i0) := Option.some.inj e0
  obtain ⟨i1, e1⟩ := is_v k1
  obtain rfl : w1 = (.int i1) := Option.some.inj e1
  obtain ⟨i2, e2⟩ := is_v k2
  obtain rfl : w2 = (.int i2) := Option.some.inj e2
  obtain ⟨i3, e3⟩ := is_v k3
  obtain rfl : w3 = (.int i3) := Option.some.inj e3
  obtain ⟨hsets, hown0⟩ := atoms_of _ (rest_1_c_eq ▸ (show rest_1_c.before _ s = true from hrest))
  obtain ⟨dc, ca, em, cv, SS0⟩ := own_start hw hsets
  have hmir : Jvm.ShelfD.MirrorMade s "[Ljava/lang/Object;" := by
    obtain ⟨c, k, m, h1, h2, h3, -⟩ := hcalls.1; exact ⟨c, k, m, h1, h2, h3⟩
  obtain ⟨n, o, h1, h2, h3, _, L, rfl, ⟨rfl, N⟩, hq⟩ := rm0 l s _ hw tables_1 i0 i1 i2 i3 s.heap s.heap.size (Nat.le_refl _) hmir SS0 p e ha hc hk s m _ below hf ((Spec.applies_iff_loose hf).mp happ).1 ⟨rfl, State.Warmed39.refl s, rfl⟩ trivial
  refine ⟨n, _, h1, h2, h3, hpost _ _ _ _ _ _ ⟨Cond.after_iff.mpr rfl, Cond.after_iff.mpr (eq_i res_at (Term.int_eval (1)) rfl), trivial⟩ ⟨hq.1, hq.2.1, (hq.2.2.sift fun y hy => Or.inr (N y hy)).mono (by decide) (by decide)⟩⟩
theorem main_1_1 : Claimed_1_1 := comes_1 fun _ _ _ _ _ _ h hF => ⟨h.1, hF⟩
theorem main_1_2 : Claimed_1_2 := comes_1 fun _ _ _ _ _ _ h hF => ⟨h.2.1, hF⟩
end Jvm.Pilot.@@N@@
namespace Jvm.Pilot.@@N@@
open Jvm Jvm.ClassFile Sem Op Lib Jvm.Free Jvm.Stand Jvm.Pilot.@@N@@.Jvm.D
/-! MADE BY PROGRAM (witnessworld.py) out of the Statement's table words and the real class files: 37 classes; the members and pool entries that the words name. The judged class is class 1, her method 1. -/
namespace start1
open Jvm.ClassFile
def u (s : String) : CpInfo := .utf8 (stringToUtf16 s)
/-- a pool by its gaps: so many unusable entries, then the entry; so many at the end -/
def gap : Nat → List CpInfo → List CpInfo
  | 0, r => r
  | n + 1, r => .unusable :: gap n r
def poolList (es : List (Nat × CpInfo)) (last : Nat) : List CpInfo := es.foldr (fun e r => gap e.1 (e.2 :: r)) (gap last [])
def pool (es : List (Nat × CpInfo)) (last : Nat) : Array CpInfo := ⟨poolList es last⟩
def fileOf (pool : Array CpInfo) (this : Nat) (attrs : Array Attribute := #[]) (ms : Array MethodInfo := #[]) (fl : Nat := 33) (sup : Nat := 0) (ifs : Array Nat := #[]) (fds : Array FieldInfo := #[]) : ClassFile where
  minorVersion := 0
  majorVersion := 65
  constantPool := pool
  accessFlags := fl
  thisClass := this
  superClass := sup
  interfaces := ifs
  fields := fds
  methods := ms
  attributes := attrs
def plain (name : String) (sup : Option ClassId) : Class where
  name := name
  kind := .ordinary
  loader := none
  accessFlags := 33
  super := sup
  interfaces := #[]
  cf := none
  fields := #[]
  methods := #[]
  instanceTypes := #[]
  staticTypes := #[]
  resolved := #[]
  callSites := []
  init := .initialized
  statics := none
  mirror := none

def pool0 : Array CpInfo := pool [(5, u "<init>"), (0, u "()V"), (1, .class_ 10), (1, u "java/lang/Object"), (0, u "getClass"), (0, u "()Ljava/lang/Class;")] 111

def k0c0 : Code := { maxStack := 0, maxLocals := 1, code := object_method_1_code, exceptionTable := #[], attributes := #[] }
def k0m0 : Method := { name := "<init>", desc := "()V", sig := { parameters := [], returnType := none }, accessFlags := 1, code := some k0c0 }
def k0m1 : Method := { name := "getClass", desc := "()Ljava/lang/Class;", sig := { parameters := [], returnType := some (.object "java/lang/Class") }, accessFlags := 273, code := none }
/-- java/lang/Object -/
def k0 : Class := { plain "java/lang/Object" none with
  accessFlags := 33
  interfaces := #[]
  cf := some (fileOf pool0 8 #[] #[{ accessFlags := 1, nameIndex := 5, descriptorIndex := 6, attributes := #[] }, { accessFlags := 273, nameIndex := 11, descriptorIndex := 12, attributes := #[] }] 33 0 #[] #[])
  fields := #[]
  methods := #[k0m0, k0m1]
  instanceTypes := #[]
  staticTypes := #[]
  resolved := Array.replicate 124 none
  statics := none }

def pool1 : Array CpInfo := pool [(2, .class_ 4), (1, u "java/lang/Object"), (0, u "<init>"), (0, u "()V"), (0, .class_ 8), (0, u "java/lang/Integer"), (0, .integer 2147483647), (0, .methodref 11 12), (0, .class_ 13), (0, .nameAndType 14 15), (0, u "com/example/measured_crawler/measuredcrawler/eval/measure/Trajectory"), (0, u "checkpoints"), (0, u "(II)Ljava/util/List;"), (0, .interfaceMethodref 17 18), (0, .class_ 19), (0, .nameAndType 20 21), (0, u "java/util/List"), (0, u "size"), (0, u "()I"), (0, .interfaceMethodref 17 23), (0, .nameAndType 24 25), (0, u "get"), (0, u "(I)Ljava/lang/Object;"), (0, .methodref 7 27), (0, .nameAndType 28 21), (0, u "intValue"), (0, .class_ 30), (0, u "com/example/measured_crawler/measuredcrawler/eval/measure/TrajectoryCheckpointsPinLaw"), (2, u "law"), (0, u "(IIII)Z")] 3

def k1m0 : Method := { name := "<init>", desc := "()V", sig := { parameters := [], returnType := none }, accessFlags := 1, code := none }
def k1c1 : Code := { maxStack := 3, maxLocals := 12, code := code, exceptionTable := #[], attributes := #[] }
def k1m1 : Method := { name := "law", desc := "(IIII)Z", sig := { parameters := [.int, .int, .int, .int], returnType := some .boolean }, accessFlags := 9, code := some k1c1 }
/-- com/example/measured_crawler/measuredcrawler/eval/measure/TrajectoryCheckpointsPinLaw -/
def k1 : Class := { plain "com/example/measured_crawler/measuredcrawler/eval/measure/TrajectoryCheckpointsPinLaw" (some 0) with
  accessFlags := 49
  interfaces := #[]
  cf := some (fileOf pool1 29 #[] #[{ accessFlags := 1, nameIndex := 5, descriptorIndex := 6, attributes := #[] }, { accessFlags := 9, nameIndex := 33, descriptorIndex := 34, attributes := #[] }] 49 2 #[] #[])
  fields := #[]
  methods := #[k1m0, k1m1]
  instanceTypes := #[]
  staticTypes := #[]
  resolved := Array.replicate 38 none
  statics := none }

def pool2 : Array CpInfo := pool [(2, .class_ 4), (1, u "java/lang/Object"), (0, u "<init>"), (0, u "()V"), (0, .class_ 8), (0, u "java/lang/Record")] 13

def k2m0 : Method := { name := "<init>", desc := "()V", sig := { parameters := [], returnType := none }, accessFlags := 4, code := none }
/-- java/lang/Record -/
def k2 : Class := { plain "java/lang/Record" (some 0) with
  accessFlags := 1057
  interfaces := #[]
  cf := some (fileOf pool2 7 #[] #[{ accessFlags := 4, nameIndex := 5, descriptorIndex := 6, attributes := #[] }] 1057 2 #[] #[])
  fields := #[]
  methods := #[k2m0]
  instanceTypes := #[]
  staticTypes := #[]
  resolved := Array.replicate 22 none
  statics := none }

def pool3 : Array CpInfo := pool [(2, .class_ 4), (0, .nameAndType 5 6), (0, u "java/lang/Record"), (0, u "<init>"), (0, u "()V"), (0, .interfaceMethodref 8 9), (0, .class_ 10), (0, .nameAndType 11 12), (0, u "java/util/List"), (0, u "copyOf"), (0, u "(Ljava/util/Collection;)Ljava/util/List;"), (1, .class_ 16), (1, u "com/example/measured_crawler/measuredcrawler/eval/measure/Trajectory"), (0, u "recall"), (0, u "Ljava/util/List;"), (2, u "similarity"), (2, u "strategyTime"), (9, .class_ 35), (0, u "java/util/ArrayList"), (0, .methodref 34 3), (0, .methodref 38 39), (0, .class_ 40), (0, .nameAndType 41 42), (0, u "java/lang/Integer"), (0, u "valueOf"), (0, u "(I)Ljava/lang/Integer;"), (0, .interfaceMethodref 8 44), (0, .nameAndType 45 46), (0, u "add"), (0, u "(Ljava/lang/Object;)Z"), (106, u "checkpoints"), (0, u "(II)Ljava/util/List;")] 39

def k3c0 : Code := { maxStack := 4, maxLocals := 4, code := prog_25_method_2_code, exceptionTable := #[], attributes := #[] }
def k3m0 : Method := { name := "checkpoints", desc := "(II)Ljava/util/List;", sig := { parameters := [.int, .int], returnType := some (.object "java/util/List") }, accessFlags := 9, code := some k3c0 }
/-- com/example/measured_crawler/measuredcrawler/eval/measure/Trajectory -/
def k3 : Class := { plain "com/example/measured_crawler/measuredcrawler/eval/measure/Trajectory" (some 2) with
  accessFlags := 49
  interfaces := #[]
  cf := some (fileOf pool3 14 #[] #[{ accessFlags := 9, nameIndex := 153, descriptorIndex := 154, attributes := #[] }] 49 2 #[] #[{ accessFlags := 18, nameIndex := 17, descriptorIndex := 18, attributes := #[] }, { accessFlags := 18, nameIndex := 21, descriptorIndex := 18, attributes := #[] }, { accessFlags := 18, nameIndex := 24, descriptorIndex := 18, attributes := #[] }])
  fields := #[{ name := "recall", type := (.object "java/util/List"), accessFlags := 18, slot := 0, constantValue := 0 }, { name := "similarity", type := (.object "java/util/List"), accessFlags := 18, slot := 1, constantValue := 0 }, { name := "strategyTime", type := (.object "java/util/List"), accessFlags := 18, slot := 2, constantValue := 0 }]
  methods := #[k3m0]
  instanceTypes := #[(.object "java/util/List"), (.object "java/util/List"), (.object "java/util/List")]
  staticTypes := #[]
  resolved := Array.replicate 194 none
  statics := none }

def pool4 : Array CpInfo := pool [(8, .class_ 10), (1, u "java/lang/Iterable"), (24, .class_ 36), (0, u "java/lang/Object")] 25

/-- java/lang/Iterable -/
def k4 : Class := { plain "java/lang/Iterable" (some 0) with
  accessFlags := 1537
  interfaces := #[]
  cf := some (fileOf pool4 8 #[] #[] 1537 35 #[] #[])
  fields := #[]
  methods := #[]
  instanceTypes := #[]
  staticTypes := #[]
  resolved := Array.replicate 62 none
  statics := none }

def pool5 : Array CpInfo := pool [(10, .class_ 12), (1, u "java/util/Collection"), (0, u "toArray"), (16, u "()Z"), (29, .class_ 61), (0, u "java/lang/Object"), (0, .class_ 63), (0, u "java/lang/Iterable"), (2, u "isEmpty"), (3, u "()[Ljava/lang/Object;")] 44

def k5m0 : Method := { name := "isEmpty", desc := "()Z", sig := { parameters := [], returnType := some .boolean }, accessFlags := 1025, code := none }
def k5m1 : Method := { name := "toArray", desc := "()[Ljava/lang/Object;", sig := { parameters := [], returnType := some (.array (.object "java/lang/Object")) }, accessFlags := 1025, code := none }
/-- java/util/Collection -/
def k5 : Class := { plain "java/util/Collection" (some 0) with
  accessFlags := 1537
  interfaces := #[4]
  cf := some (fileOf pool5 10 #[] #[{ accessFlags := 1025, nameIndex := 66, descriptorIndex := 30, attributes := #[] }, { accessFlags := 1025, nameIndex := 13, descriptorIndex := 70, attributes := #[] }] 1537 60 #[62] #[])
  fields := #[]
  methods := #[k5m0, k5m1]
  instanceTypes := #[]
  staticTypes := #[]
  resolved := Array.replicate 115 none
  statics := none }

def pool6 : Array CpInfo := pool [(1, .methodref 2 3), (0, .class_ 4), (0, .nameAndType 5 6), (0, u "java/lang/Object"), (0, u "<init>"), (0, u "()V"), (1, .class_ 10), (1, u "java/util/AbstractCollection"), (66, .class_ 78), (0, u "java/util/Collection")] 81

def k6c0 : Code := { maxStack := 1, maxLocals := 1, code := jdk_22_method_1_code, exceptionTable := #[], attributes := #[] }
def k6m0 : Method := { name := "<init>", desc := "()V", sig := { parameters := [], returnType := none }, accessFlags := 4, code := some k6c0 }
/-- java/util/AbstractCollection -/
def k6 : Class := { plain "java/util/AbstractCollection" (some 0) with
  accessFlags := 1057
  interfaces := #[5]
  cf := some (fileOf pool6 8 #[] #[{ accessFlags := 4, nameIndex := 5, descriptorIndex := 6, attributes := #[] }] 1057 2 #[77] #[])
  fields := #[]
  methods := #[k6m0]
  instanceTypes := #[]
  staticTypes := #[]
  resolved := Array.replicate 160 none
  statics := none }

def pool7 : Array CpInfo := pool [(8, .class_ 10), (1, u "java/util/SequencedCollection"), (15, .class_ 27), (0, u "java/lang/Object"), (0, .class_ 29), (0, u "java/util/Collection")] 27

/-- java/util/SequencedCollection -/
def k7 : Class := { plain "java/util/SequencedCollection" (some 0) with
  accessFlags := 1537
  interfaces := #[5]
  cf := some (fileOf pool7 8 #[] #[] 1537 26 #[28] #[])
  fields := #[]
  methods := #[]
  instanceTypes := #[]
  staticTypes := #[]
  resolved := Array.replicate 57 none
  statics := none }

def pool8 : Array CpInfo := pool [(8, .class_ 10), (1, u "java/util/List"), (20, u "(Ljava/lang/Object;)V"), (16, u "<init>"), (11, u "add"), (3, u "(Ljava/lang/Object;)Z"), (10, u "get"), (0, u "(I)Ljava/lang/Object;"), (2, u "size"), (0, u "()I"), (7, u "of"), (2, .class_ 93), (1, u "java/util/ImmutableCollections"), (2, .class_ 97), (0, u "java/util/ImmutableCollections$List12"), (0, .methodref 96 99), (0, .nameAndType 48 31), (0, .methodref 96 101), (0, .nameAndType 48 102), (0, u "(Ljava/lang/Object;Ljava/lang/Object;)V"), (0, .class_ 104), (0, u "java/lang/Object"), (3, u "([Ljava/lang/Object;)Ljava/util/List;"), (0, .methodref 91 110), (0, .nameAndType 111 108), (0, u "listFromArray"), (0, .methodref 91 113), (0, .nameAndType 114 115), (0, u "listCopy"), (0, u "(Ljava/util/Collection;)Ljava/util/List;"), (4, .class_ 121), (0, u "java/util/SequencedCollection"), (112, u "copyOf")] 16

def k8m0 : Method := { name := "size", desc := "()I", sig := { parameters := [], returnType := some .int }, accessFlags := 1025, code := none }
def k8m1 : Method := { name := "add", desc := "(Ljava/lang/Object;)Z", sig := { parameters := [(.object "java/lang/Object")], returnType := some .boolean }, accessFlags := 1025, code := none }
def k8m2 : Method := { name := "get", desc := "(I)Ljava/lang/Object;", sig := { parameters := [.int], returnType := some (.object "java/lang/Object") }, accessFlags := 1025, code := none }
def k8c3 : Code := { maxStack := 5, maxLocals := 2, code := jdk_40_method_47_code, exceptionTable := #[], attributes := #[] }
def k8m3 : Method := { name := "of", desc := "([Ljava/lang/Object;)Ljava/util/List;", sig := { parameters := [(.array (.object "java/lang/Object"))], returnType := some (.object "java/util/List") }, accessFlags := 137, code := some k8c3 }
def k8c4 : Code := { maxStack := 1, maxLocals := 1, code := jdk_40_method_48_code, exceptionTable := #[], attributes := #[] }
def k8m4 : Method := { name := "copyOf", desc := "(Ljava/util/Collection;)Ljava/util/List;", sig := { parameters := [(.object "java/util/Collection")], returnType := some (.object "java/util/List") }, accessFlags := 9, code := some k8c4 }
/-- java/util/List -/
def k8 : Class := { plain "java/util/List" (some 0) with
  accessFlags := 1537
  interfaces := #[7]
  cf := some (fileOf pool8 8 #[] #[{ accessFlags := 1025, nameIndex := 79, descriptorIndex := 80, attributes := #[] }, { accessFlags := 1025, nameIndex := 60, descriptorIndex := 64, attributes := #[] }, { accessFlags := 1025, nameIndex := 75, descriptorIndex := 76, attributes := #[] }, { accessFlags := 137, nameIndex := 88, descriptorIndex := 108, attributes := #[] }, { accessFlags := 9, nameIndex := 234, descriptorIndex := 115, attributes := #[] }] 1537 103 #[120] #[])
  fields := #[]
  methods := #[k8m0, k8m1, k8m2, k8m3, k8m4]
  instanceTypes := #[]
  staticTypes := #[]
  resolved := Array.replicate 251 none
  statics := none }

def pool9 : Array CpInfo := pool [(1, .methodref 2 3), (0, .class_ 4), (0, .nameAndType 5 6), (0, u "java/util/AbstractCollection"), (0, u "<init>"), (0, u "()V"), (0, .fieldref 8 9), (0, .class_ 10), (0, .nameAndType 11 12), (0, u "java/util/AbstractList"), (0, u "modCount"), (0, u "I"), (64, .class_ 78), (0, u "java/util/AbstractList$Itr"), (3, .class_ 83), (0, u "java/util/AbstractList$ListItr"), (9, .class_ 94), (0, u "java/util/AbstractList$RandomAccessSubList"), (3, .class_ 99), (0, u "java/util/AbstractList$SubList"), (33, .class_ 134), (0, u "java/util/List"), (73, .class_ 209), (0, u "java/util/AbstractList$SubList$1"), (0, .class_ 211), (0, u "java/util/AbstractList$RandomAccessSpliterator")] 6

def k9c0 : Code := { maxStack := 2, maxLocals := 1, code := jdk_39_method_1_code, exceptionTable := #[], attributes := #[] }
def k9m0 : Method := { name := "<init>", desc := "()V", sig := { parameters := [], returnType := none }, accessFlags := 4, code := some k9c0 }
/-- java/util/AbstractList -/
def k9 : Class := { plain "java/util/AbstractList" (some 6) with
  accessFlags := 1057
  interfaces := #[8]
  cf := some (fileOf pool9 8 #[.nestMembers #[93, 98, 208, 210, 82, 77]] #[{ accessFlags := 4, nameIndex := 5, descriptorIndex := 6, attributes := #[] }] 1057 2 #[133] #[{ accessFlags := 132, nameIndex := 11, descriptorIndex := 12, attributes := #[] }])
  fields := #[{ name := "modCount", type := .int, accessFlags := 132, slot := 0, constantValue := 0 }]
  methods := #[k9m0]
  instanceTypes := #[.int]
  staticTypes := #[]
  resolved := Array.replicate 218 none
  statics := none }

def pool10 : Array CpInfo := pool [(1, .class_ 2), (0, u "java/util/RandomAccess"), (0, .class_ 4), (0, u "java/lang/Object")] 2

/-- java/util/RandomAccess -/
def k10 : Class := { plain "java/util/RandomAccess" (some 0) with
  accessFlags := 1537
  interfaces := #[]
  cf := some (fileOf pool10 1 #[] #[] 1537 3 #[] #[])
  fields := #[]
  methods := #[]
  instanceTypes := #[]
  staticTypes := #[]
  resolved := Array.replicate 7 none
  statics := none }

def pool11 : Array CpInfo := pool [(1, .class_ 2), (0, u "java/lang/Cloneable"), (0, .class_ 4), (0, u "java/lang/Object")] 2

/-- java/lang/Cloneable -/
def k11 : Class := { plain "java/lang/Cloneable" (some 0) with
  accessFlags := 1537
  interfaces := #[]
  cf := some (fileOf pool11 1 #[] #[] 1537 3 #[] #[])
  fields := #[]
  methods := #[]
  instanceTypes := #[]
  staticTypes := #[]
  resolved := Array.replicate 7 none
  statics := none }

def pool12 : Array CpInfo := pool [(1, .class_ 2), (0, u "java/io/Serializable"), (0, .class_ 4), (0, u "java/lang/Object")] 2

/-- java/io/Serializable -/
def k12 : Class := { plain "java/io/Serializable" (some 0) with
  accessFlags := 1537
  interfaces := #[]
  cf := some (fileOf pool12 1 #[] #[] 1537 3 #[] #[])
  fields := #[]
  methods := #[]
  instanceTypes := #[]
  staticTypes := #[]
  resolved := Array.replicate 7 none
  statics := none }

def pool13 : Array CpInfo := pool [(1, .methodref 2 3), (0, .class_ 4), (0, .nameAndType 5 6), (0, u "java/util/AbstractList"), (0, u "<init>"), (0, u "()V"), (0, .class_ 8), (0, u "java/lang/Object"), (0, .fieldref 10 11), (0, .class_ 12), (0, .nameAndType 13 14), (0, u "java/util/ArrayList"), (0, u "elementData"), (0, u "[Ljava/lang/Object;"), (2, u "EMPTY_ELEMENTDATA"), (21, .fieldref 10 40), (0, .nameAndType 41 14), (0, u "DEFAULTCAPACITY_EMPTY_ELEMENTDATA"), (4, u "toArray"), (0, u "()[Ljava/lang/Object;"), (0, .fieldref 10 49), (0, .nameAndType 50 51), (0, u "size"), (0, u "I"), (6, .class_ 60), (1, u "java/util/Arrays"), (0, u "copyOf"), (1, .fieldref 10 64), (0, .nameAndType 65 51), (0, u "modCount"), (0, .methodref 58 67), (0, .nameAndType 61 68), (0, u "([Ljava/lang/Object;I)[Ljava/lang/Object;"), (0, .methodref 10 70), (0, .nameAndType 71 72), (0, u "grow"), (0, u "(I)[Ljava/lang/Object;"), (0, .methodref 74 75), (0, .class_ 76), (0, .nameAndType 77 78), (0, u "jdk/internal/util/ArraysSupport"), (0, u "newLength"), (0, u "(III)I"), (0, .methodref 80 81), (0, .class_ 82), (0, .nameAndType 83 84), (0, u "java/lang/Math"), (0, u "max"), (0, u "(II)I"), (11, u "(Ljava/lang/Object;)Z"), (32, .methodref 10 130), (0, .nameAndType 71 47), (0, .methodref 10 132), (0, .nameAndType 133 134), (0, u "add"), (0, u "(Ljava/lang/Object;[Ljava/lang/Object;I)V"), (13, .class_ 149), (0, u "java/util/List"), (23, u "()Z"), (88, .class_ 263), (0, u "java/util/ArrayList$ListItr"), (3, .class_ 268), (0, u "java/util/ArrayList$Itr"), (7, .class_ 277), (0, u "java/util/ArrayList$SubList"), (12, .class_ 291), (0, u "java/util/ArrayList$ArrayListSpliterator"), (37, .class_ 330), (0, u "java/util/RandomAccess"), (0, .class_ 332), (0, u "java/lang/Cloneable"), (0, .class_ 334), (0, u "java/io/Serializable"), (0, u "serialVersionUID"), (0, u "J"), (3, u "DEFAULT_CAPACITY"), (22, u "isEmpty"), (136, .class_ 501), (0, u "java/util/ArrayList$SubList$2"), (0, .class_ 503), (0, u "java/util/ArrayList$SubList$1")] 5

def k13c0 : Code := { maxStack := 2, maxLocals := 1, code := jdk_38_method_2_code, exceptionTable := #[], attributes := #[] }
def k13m0 : Method := { name := "<init>", desc := "()V", sig := { parameters := [], returnType := none }, accessFlags := 1, code := some k13c0 }
def k13c1 : Code := { maxStack := 4, maxLocals := 4, code := jdk_38_method_6_code, exceptionTable := #[], attributes := #[] }
def k13m1 : Method := { name := "grow", desc := "(I)[Ljava/lang/Object;", sig := { parameters := [.int], returnType := some (.array (.object "java/lang/Object")) }, accessFlags := 2, code := some k13c1 }
def k13c2 : Code := { maxStack := 3, maxLocals := 1, code := jdk_38_method_7_code, exceptionTable := #[], attributes := #[] }
def k13m2 : Method := { name := "grow", desc := "()[Ljava/lang/Object;", sig := { parameters := [], returnType := some (.array (.object "java/lang/Object")) }, accessFlags := 2, code := some k13c2 }
def k13c3 : Code := { maxStack := 1, maxLocals := 1, code := jdk_38_method_9_code, exceptionTable := #[], attributes := #[] }
def k13m3 : Method := { name := "isEmpty", desc := "()Z", sig := { parameters := [], returnType := some .boolean }, accessFlags := 1, code := some k13c3 }
def k13c4 : Code := { maxStack := 2, maxLocals := 1, code := jdk_38_method_16_code, exceptionTable := #[], attributes := #[] }
def k13m4 : Method := { name := "toArray", desc := "()[Ljava/lang/Object;", sig := { parameters := [], returnType := some (.array (.object "java/lang/Object")) }, accessFlags := 1, code := some k13c4 }
def k13c5 : Code := { maxStack := 3, maxLocals := 4, code := jdk_38_method_24_code, exceptionTable := #[], attributes := #[] }
def k13m5 : Method := { name := "add", desc := "(Ljava/lang/Object;[Ljava/lang/Object;I)V", sig := { parameters := [(.object "java/lang/Object"), (.array (.object "java/lang/Object")), .int], returnType := none }, accessFlags := 2, code := some k13c5 }
def k13c6 : Code := { maxStack := 4, maxLocals := 2, code := jdk_38_method_25_code, exceptionTable := #[], attributes := #[] }
def k13m6 : Method := { name := "add", desc := "(Ljava/lang/Object;)Z", sig := { parameters := [(.object "java/lang/Object")], returnType := some .boolean }, accessFlags := 1, code := some k13c6 }
/-- java/util/ArrayList -/
def k13 : Class := { plain "java/util/ArrayList" (some 9) with
  accessFlags := 33
  interfaces := #[8, 10, 11, 12]
  cf := some (fileOf pool13 10 #[.nestMembers #[290, 276, 500, 502, 262, 267]] #[{ accessFlags := 1, nameIndex := 5, descriptorIndex := 6, attributes := #[] }, { accessFlags := 2, nameIndex := 71, descriptorIndex := 72, attributes := #[] }, { accessFlags := 2, nameIndex := 71, descriptorIndex := 47, attributes := #[] }, { accessFlags := 1, nameIndex := 363, descriptorIndex := 173, attributes := #[] }, { accessFlags := 1, nameIndex := 46, descriptorIndex := 47, attributes := #[] }, { accessFlags := 2, nameIndex := 133, descriptorIndex := 134, attributes := #[] }, { accessFlags := 1, nameIndex := 133, descriptorIndex := 96, attributes := #[] }] 33 2 #[148, 329, 331, 333] #[{ accessFlags := 26, nameIndex := 335, descriptorIndex := 336, attributes := #[] }, { accessFlags := 26, nameIndex := 340, descriptorIndex := 51, attributes := #[] }, { accessFlags := 26, nameIndex := 17, descriptorIndex := 14, attributes := #[] }, { accessFlags := 26, nameIndex := 41, descriptorIndex := 14, attributes := #[] }, { accessFlags := 128, nameIndex := 13, descriptorIndex := 14, attributes := #[] }, { accessFlags := 2, nameIndex := 50, descriptorIndex := 51, attributes := #[] }])
  fields := #[{ name := "serialVersionUID", type := .long, accessFlags := 26, slot := 0, constantValue := 0 }, { name := "DEFAULT_CAPACITY", type := .int, accessFlags := 26, slot := 1, constantValue := 0 }, { name := "EMPTY_ELEMENTDATA", type := (.array (.object "java/lang/Object")), accessFlags := 26, slot := 2, constantValue := 0 }, { name := "DEFAULTCAPACITY_EMPTY_ELEMENTDATA", type := (.array (.object "java/lang/Object")), accessFlags := 26, slot := 3, constantValue := 0 }, { name := "elementData", type := (.array (.object "java/lang/Object")), accessFlags := 128, slot := 1, constantValue := 0 }, { name := "size", type := .int, accessFlags := 2, slot := 2, constantValue := 0 }]
  methods := #[k13m0, k13m1, k13m2, k13m3, k13m4, k13m5, k13m6]
  instanceTypes := #[.int, (.array (.object "java/lang/Object")), .int]
  staticTypes := #[.long, .int, (.array (.object "java/lang/Object")), (.array (.object "java/lang/Object"))]
  resolved := Array.replicate 509 none
  statics := some 0 }

def pool14 : Array CpInfo := pool [(1, .methodref 2 3), (0, .class_ 4), (0, .nameAndType 5 6), (0, u "java/lang/Object"), (0, u "<init>"), (0, u "()V"), (1, .class_ 10), (1, u "java/lang/Number"), (2, .class_ 14), (0, u "java/io/Serializable"), (0, u "serialVersionUID"), (0, u "J")] 20

def k14c0 : Code := { maxStack := 1, maxLocals := 1, code := jdk_18_method_1_code, exceptionTable := #[], attributes := #[] }
def k14m0 : Method := { name := "<init>", desc := "()V", sig := { parameters := [], returnType := none }, accessFlags := 1, code := some k14c0 }
/-- java/lang/Number -/
def k14 : Class := { plain "java/lang/Number" (some 0) with
  accessFlags := 1057
  interfaces := #[12]
  cf := some (fileOf pool14 8 #[] #[{ accessFlags := 1, nameIndex := 5, descriptorIndex := 6, attributes := #[] }] 1057 2 #[13] #[{ accessFlags := 26, nameIndex := 15, descriptorIndex := 16, attributes := #[] }])
  fields := #[{ name := "serialVersionUID", type := .long, accessFlags := 26, slot := 0, constantValue := 0 }]
  methods := #[k14m0]
  instanceTypes := #[]
  staticTypes := #[.long]
  resolved := Array.replicate 37 none
  statics := none }

def pool15 : Array CpInfo := pool [(1, .class_ 2), (0, u "java/lang/Comparable"), (0, .class_ 4), (0, u "java/lang/Object")] 7

/-- java/lang/Comparable -/
def k15 : Class := { plain "java/lang/Comparable" (some 0) with
  accessFlags := 1537
  interfaces := #[]
  cf := some (fileOf pool15 1 #[] #[] 1537 3 #[] #[])
  fields := #[]
  methods := #[]
  instanceTypes := #[]
  staticTypes := #[]
  resolved := Array.replicate 12 none
  statics := none }

def pool16 : Array CpInfo := pool [(1, .class_ 2), (0, u "java/lang/constant/Constable"), (0, .class_ 4), (0, u "java/lang/Object")] 6

/-- java/lang/constant/Constable -/
def k16 : Class := { plain "java/lang/constant/Constable" (some 0) with
  accessFlags := 1537
  interfaces := #[]
  cf := some (fileOf pool16 1 #[] #[] 1537 3 #[] #[])
  fields := #[]
  methods := #[]
  instanceTypes := #[]
  staticTypes := #[]
  resolved := Array.replicate 11 none
  statics := none }

def pool17 : Array CpInfo := pool [(1, .class_ 2), (0, u "java/lang/constant/ConstantDesc"), (0, .class_ 4), (0, u "java/lang/Object")] 32

/-- java/lang/constant/ConstantDesc -/
def k17 : Class := { plain "java/lang/constant/ConstantDesc" (some 0) with
  accessFlags := 1537
  interfaces := #[]
  cf := some (fileOf pool17 1 #[] #[] 1537 3 #[] #[])
  fields := #[]
  methods := #[]
  instanceTypes := #[]
  staticTypes := #[]
  resolved := Array.replicate 37 none
  statics := none }

def pool18 : Array CpInfo := pool [(1, .class_ 2), (0, u "java/lang/Integer"), (16, u "digits"), (0, u "[C"), (46, u "<init>"), (17, u "DigitOnes"), (0, u "[B"), (2, u "DigitTens"), (10, .nameAndType 67 101), (0, u "()V"), (19, u "()I"), (65, u "valueOf"), (0, u "(I)Ljava/lang/Integer;"), (0, .class_ 190), (0, u "java/lang/Integer$IntegerCache"), (0, .fieldref 189 192), (0, .nameAndType 193 194), (0, u "high"), (0, u "I"), (0, .fieldref 189 196), (0, .nameAndType 197 198), (0, u "cache"), (0, u "[Ljava/lang/Integer;"), (0, .methodref 1 200), (0, .nameAndType 67 201), (0, u "(I)V"), (0, .methodref 203 100), (0, .class_ 204), (0, u "java/lang/Number"), (0, .fieldref 1 206), (0, .nameAndType 207 194), (0, u "value"), (5, u "intValue"), (88, u "TYPE"), (0, u "Ljava/lang/Class;"), (0, .class_ 305), (0, u "java/lang/Comparable"), (0, .class_ 307), (0, u "java/lang/constant/Constable"), (0, .class_ 309), (0, u "java/lang/constant/ConstantDesc"), (0, u "MIN_VALUE"), (1, u "MAX_VALUE"), (3, u "SIZE"), (1, u "BYTES"), (1, u "serialVersionUID"), (0, u "J")] 131

def k18c0 : Code := { maxStack := 3, maxLocals := 1, code := jdk_33_method_22_code, exceptionTable := #[], attributes := #[] }
def k18m0 : Method := { name := "valueOf", desc := "(I)Ljava/lang/Integer;", sig := { parameters := [.int], returnType := some (.object "java/lang/Integer") }, accessFlags := 9, code := some k18c0 }
def k18c1 : Code := { maxStack := 2, maxLocals := 2, code := jdk_33_method_23_code, exceptionTable := #[], attributes := #[] }
def k18m1 : Method := { name := "<init>", desc := "(I)V", sig := { parameters := [.int], returnType := none }, accessFlags := 1, code := some k18c1 }
def k18c2 : Code := { maxStack := 1, maxLocals := 1, code := jdk_33_method_27_code, exceptionTable := #[], attributes := #[] }
def k18m2 : Method := { name := "intValue", desc := "()I", sig := { parameters := [], returnType := some .int }, accessFlags := 1, code := some k18c2 }
/-- java/lang/Integer -/
def k18 : Class := { plain "java/lang/Integer" (some 14) with
  accessFlags := 49
  interfaces := #[15, 16, 17]
  cf := some (fileOf pool18 1 #[.nestMembers #[189]] #[{ accessFlags := 9, nameIndex := 187, descriptorIndex := 188, attributes := #[] }, { accessFlags := 1, nameIndex := 67, descriptorIndex := 201, attributes := #[] }, { accessFlags := 1, nameIndex := 213, descriptorIndex := 121, attributes := #[] }] 49 203 #[304, 306, 308] #[{ accessFlags := 25, nameIndex := 310, descriptorIndex := 194, attributes := #[] }, { accessFlags := 25, nameIndex := 312, descriptorIndex := 194, attributes := #[] }, { accessFlags := 25, nameIndex := 302, descriptorIndex := 303, attributes := #[] }, { accessFlags := 24, nameIndex := 19, descriptorIndex := 20, attributes := #[] }, { accessFlags := 24, nameIndex := 89, descriptorIndex := 86, attributes := #[] }, { accessFlags := 24, nameIndex := 85, descriptorIndex := 86, attributes := #[] }, { accessFlags := 18, nameIndex := 207, descriptorIndex := 194, attributes := #[] }, { accessFlags := 25, nameIndex := 316, descriptorIndex := 194, attributes := #[] }, { accessFlags := 25, nameIndex := 318, descriptorIndex := 194, attributes := #[] }, { accessFlags := 26, nameIndex := 320, descriptorIndex := 321, attributes := #[] }])
  fields := #[{ name := "MIN_VALUE", type := .int, accessFlags := 25, slot := 0, constantValue := 0 }, { name := "MAX_VALUE", type := .int, accessFlags := 25, slot := 1, constantValue := 0 }, { name := "TYPE", type := (.object "java/lang/Class"), accessFlags := 25, slot := 2, constantValue := 0 }, { name := "digits", type := (.array .char), accessFlags := 24, slot := 3, constantValue := 0 }, { name := "DigitTens", type := (.array .byte), accessFlags := 24, slot := 4, constantValue := 0 }, { name := "DigitOnes", type := (.array .byte), accessFlags := 24, slot := 5, constantValue := 0 }, { name := "value", type := .int, accessFlags := 18, slot := 0, constantValue := 0 }, { name := "SIZE", type := .int, accessFlags := 25, slot := 6, constantValue := 0 }, { name := "BYTES", type := .int, accessFlags := 25, slot := 7, constantValue := 0 }, { name := "serialVersionUID", type := .long, accessFlags := 26, slot := 8, constantValue := 0 }]
  methods := #[k18m0, k18m1, k18m2]
  instanceTypes := #[.int]
  staticTypes := #[.int, .int, (.object "java/lang/Class"), (.array .char), (.array .byte), (.array .byte), .int, .int, .long]
  resolved := Array.replicate 453 none
  statics := none }

def pool19 : Array CpInfo := pool [(2, .class_ 4), (1, u "java/lang/Object"), (0, u "<init>"), (0, u "()V"), (0, .class_ 8), (0, u "java/lang/Integer"), (7, .class_ 18), (1, u "java/lang/Integer$IntegerCache"), (0, u "$assertionsDisabled"), (0, u "Z"), (26, u "high"), (0, u "I"), (8, u "archivedCache"), (0, u "[Ljava/lang/Integer;"), (12, u "cache"), (0, u "low")] 27

def k19m0 : Method := { name := "<init>", desc := "()V", sig := { parameters := [], returnType := none }, accessFlags := 2, code := none }
/-- java/lang/Integer$IntegerCache -/
def k19 : Class := { plain "java/lang/Integer$IntegerCache" (some 0) with
  accessFlags := 48
  interfaces := #[]
  cf := some (fileOf pool19 16 #[.nestHost 7] #[{ accessFlags := 2, nameIndex := 5, descriptorIndex := 6, attributes := #[] }] 48 2 #[] #[{ accessFlags := 24, nameIndex := 72, descriptorIndex := 48, attributes := #[] }, { accessFlags := 24, nameIndex := 47, descriptorIndex := 48, attributes := #[] }, { accessFlags := 24, nameIndex := 71, descriptorIndex := 58, attributes := #[] }, { accessFlags := 8, nameIndex := 57, descriptorIndex := 58, attributes := #[] }, { accessFlags := 4120, nameIndex := 19, descriptorIndex := 20, attributes := #[] }])
  fields := #[{ name := "low", type := .int, accessFlags := 24, slot := 0, constantValue := 0 }, { name := "high", type := .int, accessFlags := 24, slot := 1, constantValue := 0 }, { name := "cache", type := (.array (.object "java/lang/Integer")), accessFlags := 24, slot := 2, constantValue := 0 }, { name := "archivedCache", type := (.array (.object "java/lang/Integer")), accessFlags := 8, slot := 3, constantValue := 0 }, { name := "$assertionsDisabled", type := .boolean, accessFlags := 4120, slot := 4, constantValue := 0 }]
  methods := #[k19m0]
  instanceTypes := #[]
  staticTypes := #[.int, .int, (.array (.object "java/lang/Integer")), (.array (.object "java/lang/Integer")), .boolean]
  resolved := Array.replicate 100 none
  statics := some 1 }

def pool20 : Array CpInfo := pool [(1, .class_ 2), (0, u "java/lang/Math"), (1, .class_ 6), (1, u "java/lang/Object"), (0, u "<init>"), (0, u "()V"), (89, .class_ 100), (1, u "java/lang/Math$RandomNumberGeneratorHolder"), (71, u "negativeZeroFloatBits"), (0, u "J"), (2, u "negativeZeroDoubleBits"), (21, u "max"), (2, u "min"), (43, u "$assertionsDisabled"), (0, u "Z"), (88, u "(II)I"), (2, u "twoToTheDoubleScaleDown"), (0, u "D"), (4, u "twoToTheDoubleScaleUp"), (9, u "E"), (3, u "PI"), (2, u "TAU"), (2, u "DEGREES_TO_RADIANS"), (0, u "RADIANS_TO_DEGREES")] 94

def k20m0 : Method := { name := "<init>", desc := "()V", sig := { parameters := [], returnType := none }, accessFlags := 2, code := none }
def k20c1 : Code := { maxStack := 2, maxLocals := 2, code := jdk_29_method_65_code, exceptionTable := #[], attributes := #[] }
def k20m1 : Method := { name := "max", desc := "(II)I", sig := { parameters := [.int, .int], returnType := some .int }, accessFlags := 9, code := some k20c1 }
def k20c2 : Code := { maxStack := 2, maxLocals := 2, code := jdk_29_method_69_code, exceptionTable := #[], attributes := #[] }
def k20m2 : Method := { name := "min", desc := "(II)I", sig := { parameters := [.int, .int], returnType := some .int }, accessFlags := 9, code := some k20c2 }
/-- java/lang/Math -/
def k20 : Class := { plain "java/lang/Math" (some 0) with
  accessFlags := 49
  interfaces := #[]
  cf := some (fileOf pool20 1 #[.nestMembers #[98]] #[{ accessFlags := 2, nameIndex := 7, descriptorIndex := 8, attributes := #[] }, { accessFlags := 9, nameIndex := 198, descriptorIndex := 335, attributes := #[] }, { accessFlags := 9, nameIndex := 201, descriptorIndex := 335, attributes := #[] }] 49 4 #[] #[{ accessFlags := 25, nameIndex := 354, descriptorIndex := 339, attributes := #[] }, { accessFlags := 25, nameIndex := 358, descriptorIndex := 339, attributes := #[] }, { accessFlags := 25, nameIndex := 361, descriptorIndex := 339, attributes := #[] }, { accessFlags := 26, nameIndex := 364, descriptorIndex := 339, attributes := #[] }, { accessFlags := 26, nameIndex := 365, descriptorIndex := 339, attributes := #[] }, { accessFlags := 26, nameIndex := 172, descriptorIndex := 173, attributes := #[] }, { accessFlags := 26, nameIndex := 176, descriptorIndex := 173, attributes := #[] }, { accessFlags := 8, nameIndex := 344, descriptorIndex := 339, attributes := #[] }, { accessFlags := 8, nameIndex := 338, descriptorIndex := 339, attributes := #[] }, { accessFlags := 4120, nameIndex := 245, descriptorIndex := 246, attributes := #[] }])
  fields := #[{ name := "E", type := .double, accessFlags := 25, slot := 0, constantValue := 0 }, { name := "PI", type := .double, accessFlags := 25, slot := 1, constantValue := 0 }, { name := "TAU", type := .double, accessFlags := 25, slot := 2, constantValue := 0 }, { name := "DEGREES_TO_RADIANS", type := .double, accessFlags := 26, slot := 3, constantValue := 0 }, { name := "RADIANS_TO_DEGREES", type := .double, accessFlags := 26, slot := 4, constantValue := 0 }, { name := "negativeZeroFloatBits", type := .long, accessFlags := 26, slot := 5, constantValue := 0 }, { name := "negativeZeroDoubleBits", type := .long, accessFlags := 26, slot := 6, constantValue := 0 }, { name := "twoToTheDoubleScaleUp", type := .double, accessFlags := 8, slot := 7, constantValue := 0 }, { name := "twoToTheDoubleScaleDown", type := .double, accessFlags := 8, slot := 8, constantValue := 0 }, { name := "$assertionsDisabled", type := .boolean, accessFlags := 4120, slot := 9, constantValue := 0 }]
  methods := #[k20m0, k20m1, k20m2]
  instanceTypes := #[]
  staticTypes := #[.double, .double, .double, .double, .double, .long, .long, .double, .double, .boolean]
  resolved := Array.replicate 460 none
  statics := none }

def pool21 : Array CpInfo := pool [(2, .class_ 4), (1, u "java/lang/Object"), (0, u "<init>"), (0, u "()V"), (3, .class_ 11), (0, u "java/util/ImmutableCollections$List12"), (0, .class_ 13), (0, u "java/util/ImmutableCollections$ListN"), (3, u "Z"), (0, .class_ 19), (0, u "java/util/List"), (0, .interfaceMethodref 21 22), (0, .class_ 23), (0, .nameAndType 24 25), (0, u "java/util/Collection"), (0, u "isEmpty"), (0, u "()Z"), (2, u "of"), (1, .interfaceMethodref 21 31), (0, .nameAndType 32 33), (0, u "toArray"), (0, u "()[Ljava/lang/Object;"), (0, .interfaceMethodref 18 35), (0, .nameAndType 28 36), (0, u "([Ljava/lang/Object;)Ljava/util/List;"), (0, .methodref 38 39), (0, .class_ 40), (0, .nameAndType 41 42), (0, u "java/util/Objects"), (0, u "requireNonNull"), (0, u "(Ljava/lang/Object;)Ljava/lang/Object;"), (0, .methodref 12 44), (0, .nameAndType 5 45), (0, u "([Ljava/lang/Object;Z)V"), (1, .class_ 49), (1, u "java/util/ImmutableCollections"), (0, u "$assertionsDisabled"), (5, u "[Ljava/lang/Object;"), (5, u "EMPTY_LIST"), (0, u "Ljava/util/ImmutableCollections$ListN;"), (8, u "EMPTY_LIST_NULLS"), (22, u "SALT32L"), (0, u "J"), (2, u "REVERSE"), (6, u "archivedObjects"), (2, u "EMPTY"), (0, u "Ljava/lang/Object;"), (0, .class_ 112), (0, u "java/util/ImmutableCollections$SetN"), (5, u "EMPTY_SET"), (0, u "Ljava/util/ImmutableCollections$SetN;"), (0, .class_ 121), (0, u "java/util/ImmutableCollections$MapN"), (3, u "EMPTY_MAP"), (0, u "Ljava/util/ImmutableCollections$MapN;"), (4, u "EXPAND_FACTOR"), (0, u "I"), (9, u "listCopy"), (0, u "(Ljava/util/Collection;)Ljava/util/List;"), (7, u "listFromArray"), (17, .class_ 170), (0, u "java/util/ImmutableCollections$MapN$MapNIterator"), (0, .class_ 172), (0, u "java/util/ImmutableCollections$MapN$1"), (0, .class_ 174), (0, u "java/util/ImmutableCollections$Map1"), (0, .class_ 176), (0, u "java/util/ImmutableCollections$AbstractImmutableMap"), (0, .class_ 178), (0, u "java/util/ImmutableCollections$SetN$SetNIterator"), (0, .class_ 180), (0, u "java/util/ImmutableCollections$Set12"), (0, .class_ 182), (0, u "java/util/ImmutableCollections$Set12$1"), (0, .class_ 184), (0, u "java/util/ImmutableCollections$AbstractImmutableSet"), (0, .class_ 186), (0, u "java/util/ImmutableCollections$SubList"), (0, .class_ 188), (0, u "java/util/ImmutableCollections$ListItr"), (0, .class_ 190), (0, u "java/util/ImmutableCollections$AbstractImmutableList"), (0, .class_ 192), (0, u "java/util/ImmutableCollections$AbstractImmutableCollection"), (0, .class_ 194), (0, u "java/util/ImmutableCollections$Access"), (0, .class_ 196), (0, u "java/util/ImmutableCollections$Access$1")] 16

def k21m0 : Method := { name := "<init>", desc := "()V", sig := { parameters := [], returnType := none }, accessFlags := 2, code := none }
def k21c1 : Code := { maxStack := 1, maxLocals := 2, code := jdk_56_method_3_code, exceptionTable := #[], attributes := #[] }
def k21m1 : Method := { name := "listCopy", desc := "(Ljava/util/Collection;)Ljava/util/List;", sig := { parameters := [(.object "java/util/Collection")], returnType := some (.object "java/util/List") }, accessFlags := 8, code := some k21c1 }
def k21c2 : Code := { maxStack := 4, maxLocals := 3, code := jdk_56_method_4_code, exceptionTable := #[], attributes := #[] }
def k21m2 : Method := { name := "listFromArray", desc := "([Ljava/lang/Object;)Ljava/util/List;", sig := { parameters := [(.array (.object "java/lang/Object"))], returnType := some (.object "java/util/List") }, accessFlags := 136, code := some k21c2 }
/-- java/util/ImmutableCollections -/
def k21 : Class := { plain "java/util/ImmutableCollections" (some 0) with
  accessFlags := 32
  interfaces := #[]
  cf := some (fileOf pool21 47 #[.nestMembers #[120, 169, 171, 173, 175, 111, 177, 179, 181, 183, 12, 10, 185, 187, 189, 191, 193, 195]] #[{ accessFlags := 2, nameIndex := 5, descriptorIndex := 6, attributes := #[] }, { accessFlags := 8, nameIndex := 142, descriptorIndex := 143, attributes := #[] }, { accessFlags := 136, nameIndex := 151, descriptorIndex := 36, attributes := #[] }] 32 2 #[] #[{ accessFlags := 26, nameIndex := 95, descriptorIndex := 96, attributes := #[] }, { accessFlags := 26, nameIndex := 99, descriptorIndex := 17, attributes := #[] }, { accessFlags := 10, nameIndex := 106, descriptorIndex := 56, attributes := #[] }, { accessFlags := 26, nameIndex := 109, descriptorIndex := 110, attributes := #[] }, { accessFlags := 24, nameIndex := 62, descriptorIndex := 63, attributes := #[] }, { accessFlags := 24, nameIndex := 72, descriptorIndex := 63, attributes := #[] }, { accessFlags := 24, nameIndex := 118, descriptorIndex := 119, attributes := #[] }, { accessFlags := 24, nameIndex := 125, descriptorIndex := 126, attributes := #[] }, { accessFlags := 24, nameIndex := 131, descriptorIndex := 132, attributes := #[] }, { accessFlags := 4120, nameIndex := 50, descriptorIndex := 17, attributes := #[] }])
  fields := #[{ name := "SALT32L", type := .long, accessFlags := 26, slot := 0, constantValue := 0 }, { name := "REVERSE", type := .boolean, accessFlags := 26, slot := 1, constantValue := 0 }, { name := "archivedObjects", type := (.array (.object "java/lang/Object")), accessFlags := 10, slot := 2, constantValue := 0 }, { name := "EMPTY", type := (.object "java/lang/Object"), accessFlags := 26, slot := 3, constantValue := 0 }, { name := "EMPTY_LIST", type := (.object "java/util/ImmutableCollections$ListN"), accessFlags := 24, slot := 4, constantValue := 0 }, { name := "EMPTY_LIST_NULLS", type := (.object "java/util/ImmutableCollections$ListN"), accessFlags := 24, slot := 5, constantValue := 0 }, { name := "EMPTY_SET", type := (.object "java/util/ImmutableCollections$SetN"), accessFlags := 24, slot := 6, constantValue := 0 }, { name := "EMPTY_MAP", type := (.object "java/util/ImmutableCollections$MapN"), accessFlags := 24, slot := 7, constantValue := 0 }, { name := "EXPAND_FACTOR", type := .int, accessFlags := 24, slot := 8, constantValue := 0 }, { name := "$assertionsDisabled", type := .boolean, accessFlags := 4120, slot := 9, constantValue := 0 }]
  methods := #[k21m0, k21m1, k21m2]
  instanceTypes := #[]
  staticTypes := #[.long, .boolean, (.array (.object "java/lang/Object")), (.object "java/lang/Object"), (.object "java/util/ImmutableCollections$ListN"), (.object "java/util/ImmutableCollections$ListN"), (.object "java/util/ImmutableCollections$SetN"), (.object "java/util/ImmutableCollections$MapN"), .int, .boolean]
  resolved := Array.replicate 213 none
  statics := some 2 }

def pool22 : Array CpInfo := pool [(1, .methodref 2 3), (0, .class_ 4), (0, .nameAndType 5 6), (0, u "java/util/AbstractCollection"), (0, u "<init>"), (0, u "()V"), (1, .class_ 10), (1, u "java/util/ImmutableCollections"), (2, .class_ 14), (0, u "java/util/ImmutableCollections$AbstractImmutableCollection")] 41

def k22c0 : Code := { maxStack := 1, maxLocals := 1, code := jdk_47_method_1_code, exceptionTable := #[], attributes := #[] }
def k22m0 : Method := { name := "<init>", desc := "()V", sig := { parameters := [], returnType := none }, accessFlags := 0, code := some k22c0 }
/-- java/util/ImmutableCollections$AbstractImmutableCollection -/
def k22 : Class := { plain "java/util/ImmutableCollections$AbstractImmutableCollection" (some 6) with
  accessFlags := 1056
  interfaces := #[]
  cf := some (fileOf pool22 13 #[.nestHost 8] #[{ accessFlags := 0, nameIndex := 5, descriptorIndex := 6, attributes := #[] }] 1056 2 #[] #[])
  fields := #[]
  methods := #[k22m0]
  instanceTypes := #[]
  staticTypes := #[]
  resolved := Array.replicate 56 none
  statics := none }

def pool23 : Array CpInfo := pool [(1, .methodref 2 3), (0, .class_ 4), (0, .nameAndType 5 6), (0, u "java/util/ImmutableCollections$AbstractImmutableCollection"), (0, u "<init>"), (0, u "()V"), (1, .class_ 10), (1, u "java/util/ImmutableCollections"), (3, .class_ 16), (1, u "java/util/ImmutableCollections$AbstractImmutableList"), (60, .class_ 78), (0, u "java/util/List"), (45, .class_ 125), (0, u "java/util/RandomAccess")] 70

def k23c0 : Code := { maxStack := 1, maxLocals := 1, code := jdk_46_method_1_code, exceptionTable := #[], attributes := #[] }
def k23m0 : Method := { name := "<init>", desc := "()V", sig := { parameters := [], returnType := none }, accessFlags := 0, code := some k23c0 }
/-- java/util/ImmutableCollections$AbstractImmutableList -/
def k23 : Class := { plain "java/util/ImmutableCollections$AbstractImmutableList" (some 22) with
  accessFlags := 1056
  interfaces := #[8, 10]
  cf := some (fileOf pool23 14 #[.nestHost 8] #[{ accessFlags := 0, nameIndex := 5, descriptorIndex := 6, attributes := #[] }] 1056 2 #[77, 124] #[])
  fields := #[]
  methods := #[k23m0]
  instanceTypes := #[]
  staticTypes := #[]
  resolved := Array.replicate 196 none
  statics := none }

def pool24 : Array CpInfo := pool [(1, .methodref 2 3), (0, .class_ 4), (0, .nameAndType 5 6), (0, u "java/util/ImmutableCollections$AbstractImmutableList"), (0, u "<init>"), (0, u "()V"), (0, .methodref 8 9), (0, .class_ 10), (0, .nameAndType 11 12), (0, u "java/util/Objects"), (0, u "requireNonNull"), (0, u "(Ljava/lang/Object;)Ljava/lang/Object;"), (0, .fieldref 14 15), (0, .class_ 16), (0, .nameAndType 17 18), (0, u "java/util/ImmutableCollections$List12"), (0, u "e0"), (0, u "Ljava/lang/Object;"), (0, .fieldref 20 21), (0, .class_ 22), (0, .nameAndType 23 18), (0, u "java/util/ImmutableCollections"), (0, u "EMPTY"), (0, .fieldref 14 25), (0, .nameAndType 26 18), (0, u "e1"), (24, u "size"), (0, u "()I"), (17, .class_ 71), (0, u "java/io/Serializable"), (4, u "(Ljava/lang/Object;)V"), (8, u "(Ljava/lang/Object;Ljava/lang/Object;)V"), (4, u "get"), (0, u "(I)Ljava/lang/Object;")] 33

def k24c0 : Code := { maxStack := 2, maxLocals := 2, code := jdk_44_method_1_code, exceptionTable := #[], attributes := #[] }
def k24m0 : Method := { name := "<init>", desc := "(Ljava/lang/Object;)V", sig := { parameters := [(.object "java/lang/Object")], returnType := none }, accessFlags := 0, code := some k24c0 }
def k24c1 : Code := { maxStack := 2, maxLocals := 3, code := jdk_44_method_2_code, exceptionTable := #[], attributes := #[] }
def k24m1 : Method := { name := "<init>", desc := "(Ljava/lang/Object;Ljava/lang/Object;)V", sig := { parameters := [(.object "java/lang/Object"), (.object "java/lang/Object")], returnType := none }, accessFlags := 0, code := some k24c1 }
def k24c2 : Code := { maxStack := 2, maxLocals := 1, code := jdk_44_method_3_code, exceptionTable := #[], attributes := #[] }
def k24m2 : Method := { name := "size", desc := "()I", sig := { parameters := [], returnType := some .int }, accessFlags := 1, code := some k24c2 }
def k24c3 : Code := { maxStack := 2, maxLocals := 2, code := jdk_44_method_5_code, exceptionTable := #[], attributes := #[] }
def k24m3 : Method := { name := "get", desc := "(I)Ljava/lang/Object;", sig := { parameters := [.int], returnType := some (.object "java/lang/Object") }, accessFlags := 1, code := some k24c3 }
/-- java/util/ImmutableCollections$List12 -/
def k24 : Class := { plain "java/util/ImmutableCollections$List12" (some 23) with
  accessFlags := 48
  interfaces := #[12]
  cf := some (fileOf pool24 14 #[.nestHost 20] #[{ accessFlags := 0, nameIndex := 5, descriptorIndex := 76, attributes := #[] }, { accessFlags := 0, nameIndex := 5, descriptorIndex := 85, attributes := #[] }, { accessFlags := 1, nameIndex := 51, descriptorIndex := 52, attributes := #[] }, { accessFlags := 1, nameIndex := 90, descriptorIndex := 91, attributes := #[] }] 48 2 #[70] #[{ accessFlags := 18, nameIndex := 17, descriptorIndex := 18, attributes := #[] }, { accessFlags := 18, nameIndex := 26, descriptorIndex := 18, attributes := #[] }])
  fields := #[{ name := "e0", type := (.object "java/lang/Object"), accessFlags := 18, slot := 0, constantValue := 0 }, { name := "e1", type := (.object "java/lang/Object"), accessFlags := 18, slot := 1, constantValue := 0 }]
  methods := #[k24m0, k24m1, k24m2, k24m3]
  instanceTypes := #[(.object "java/lang/Object"), (.object "java/lang/Object")]
  staticTypes := #[]
  resolved := Array.replicate 125 none
  statics := none }

def pool25 : Array CpInfo := pool [(1, .methodref 2 3), (0, .class_ 4), (0, .nameAndType 5 6), (0, u "java/util/ImmutableCollections$AbstractImmutableList"), (0, u "<init>"), (0, u "()V"), (0, .fieldref 8 9), (0, .class_ 10), (0, .nameAndType 11 12), (0, u "java/util/ImmutableCollections$ListN"), (0, u "elements"), (0, u "[Ljava/lang/Object;"), (0, .fieldref 8 14), (0, .nameAndType 15 16), (0, u "allowNulls"), (0, u "Z"), (42, .class_ 60), (0, u "java/io/Serializable"), (4, u "([Ljava/lang/Object;Z)V"), (11, u "size"), (0, u "()I"), (0, u "get"), (0, u "(I)Ljava/lang/Object;"), (33, .class_ 115), (0, u "java/util/ImmutableCollections")] 3

def k25c0 : Code := { maxStack := 2, maxLocals := 3, code := jdk_45_method_1_code, exceptionTable := #[], attributes := #[] }
def k25m0 : Method := { name := "<init>", desc := "([Ljava/lang/Object;Z)V", sig := { parameters := [(.array (.object "java/lang/Object")), .boolean], returnType := none }, accessFlags := 2, code := some k25c0 }
def k25c1 : Code := { maxStack := 1, maxLocals := 1, code := jdk_45_method_3_code, exceptionTable := #[], attributes := #[] }
def k25m1 : Method := { name := "size", desc := "()I", sig := { parameters := [], returnType := some .int }, accessFlags := 1, code := some k25c1 }
def k25c2 : Code := { maxStack := 2, maxLocals := 2, code := jdk_45_method_4_code, exceptionTable := #[], attributes := #[] }
def k25m2 : Method := { name := "get", desc := "(I)Ljava/lang/Object;", sig := { parameters := [.int], returnType := some (.object "java/lang/Object") }, accessFlags := 1, code := some k25c2 }
/-- java/util/ImmutableCollections$ListN -/
def k25 : Class := { plain "java/util/ImmutableCollections$ListN" (some 23) with
  accessFlags := 48
  interfaces := #[12]
  cf := some (fileOf pool25 8 #[.nestHost 114] #[{ accessFlags := 2, nameIndex := 5, descriptorIndex := 65, attributes := #[] }, { accessFlags := 1, nameIndex := 77, descriptorIndex := 78, attributes := #[] }, { accessFlags := 1, nameIndex := 79, descriptorIndex := 80, attributes := #[] }] 48 2 #[59] #[{ accessFlags := 18, nameIndex := 11, descriptorIndex := 12, attributes := #[] }, { accessFlags := 18, nameIndex := 15, descriptorIndex := 16, attributes := #[] }])
  fields := #[{ name := "elements", type := (.array (.object "java/lang/Object")), accessFlags := 18, slot := 0, constantValue := 0 }, { name := "allowNulls", type := .boolean, accessFlags := 18, slot := 1, constantValue := 0 }]
  methods := #[k25m0, k25m1, k25m2]
  instanceTypes := #[(.array (.object "java/lang/Object")), .boolean]
  staticTypes := #[]
  resolved := Array.replicate 119 none
  statics := none }

def pool26 : Array CpInfo := pool [(2, .class_ 4), (1, u "java/lang/Object"), (0, u "<init>"), (0, u "()V"), (7, .class_ 16), (1, u "java/util/Arrays"), (57, .class_ 76), (1, u "java/util/Arrays$NaturalOrder"), (9, .methodref 2 87), (0, .nameAndType 88 89), (0, u "getClass"), (0, u "()Ljava/lang/Class;"), (20, .class_ 111), (0, u "[Ljava/lang/Object;"), (1, .class_ 115), (1, u "java/util/Arrays$LegacyMergeSort"), (1, u "Z"), (32, .methodref 151 152), (0, .class_ 153), (0, .nameAndType 154 155), (0, u "java/lang/System"), (0, u "arraycopy"), (0, u "(Ljava/lang/Object;ILjava/lang/Object;II)V"), (144, .methodref 14 301), (0, .nameAndType 302 303), (0, u "copyOf"), (0, u "([Ljava/lang/Object;ILjava/lang/Class;)[Ljava/lang/Object;"), (0, .methodref 305 306), (0, .class_ 307), (0, .nameAndType 308 309), (0, u "java/lang/Math"), (0, u "min"), (0, u "(II)I"), (65, .class_ 376), (0, u "java/util/Arrays$ArrayList"), (68, u "$assertionsDisabled"), (269, u "MIN_ARRAY_SORT_GRAN"), (0, u "I"), (2, u "INSERTIONSORT_THRESHOLD"), (140, u "([Ljava/lang/Object;I)[Ljava/lang/Object;"), (114, .class_ 976), (0, u "java/util/Arrays$ArrayItr")] 52

def k26m0 : Method := { name := "<init>", desc := "()V", sig := { parameters := [], returnType := none }, accessFlags := 2, code := none }
def k26c1 : Code := { maxStack := 3, maxLocals := 2, code := jdk_65_method_119_code, exceptionTable := #[], attributes := #[] }
def k26m1 : Method := { name := "copyOf", desc := "([Ljava/lang/Object;I)[Ljava/lang/Object;", sig := { parameters := [(.array (.object "java/lang/Object")), .int], returnType := some (.array (.object "java/lang/Object")) }, accessFlags := 9, code := some k26c1 }
def k26c2 : Code := { maxStack := 6, maxLocals := 4, code := jdk_65_method_120_code, exceptionTable := #[], attributes := #[] }
def k26m2 : Method := { name := "copyOf", desc := "([Ljava/lang/Object;ILjava/lang/Class;)[Ljava/lang/Object;", sig := { parameters := [(.array (.object "java/lang/Object")), .int, (.object "java/lang/Class")], returnType := some (.array (.object "java/lang/Object")) }, accessFlags := 9, code := some k26c2 }
/-- java/util/Arrays -/
def k26 : Class := { plain "java/util/Arrays" (some 0) with
  accessFlags := 49
  interfaces := #[]
  cf := some (fileOf pool26 14 #[.nestMembers #[975, 375, 113, 74]] #[{ accessFlags := 2, nameIndex := 5, descriptorIndex := 6, attributes := #[] }, { accessFlags := 9, nameIndex := 302, descriptorIndex := 860, attributes := #[] }, { accessFlags := 9, nameIndex := 302, descriptorIndex := 303, attributes := #[] }] 49 2 #[] #[{ accessFlags := 26, nameIndex := 715, descriptorIndex := 716, attributes := #[] }, { accessFlags := 26, nameIndex := 719, descriptorIndex := 716, attributes := #[] }, { accessFlags := 4120, nameIndex := 445, descriptorIndex := 117, attributes := #[] }])
  fields := #[{ name := "MIN_ARRAY_SORT_GRAN", type := .int, accessFlags := 26, slot := 0, constantValue := 0 }, { name := "INSERTIONSORT_THRESHOLD", type := .int, accessFlags := 26, slot := 1, constantValue := 0 }, { name := "$assertionsDisabled", type := .boolean, accessFlags := 4120, slot := 2, constantValue := 0 }]
  methods := #[k26m0, k26m1, k26m2]
  instanceTypes := #[]
  staticTypes := #[.int, .int, .boolean]
  resolved := Array.replicate 1029 none
  statics := none }

def pool27 : Array CpInfo := pool [(2, .class_ 4), (1, u "java/lang/Object"), (0, u "<init>"), (0, u "()V"), (1, .class_ 10), (1, u "java/lang/System"), (0, u "allowSecurityManager"), (0, u "I"), (16, u "cons"), (0, u "Ljava/io/Console;"), (77, .class_ 110), (1, u "java/lang/System$CallersHolder"), (43, u "initialErrStream"), (0, u "Ljava/io/PrintStream;"), (19, u "security"), (0, u "Ljava/lang/SecurityManager;"), (31, .class_ 209), (0, u "java/lang/System$1"), (7, u "props"), (0, u "Ljava/util/Properties;"), (2, u "lineSeparator"), (0, u "Ljava/lang/String;"), (96, .class_ 321), (1, u "java/lang/System$LoggerFinder"), (5, .class_ 328), (0, u "java/lang/System$Logger"), (67, u "err"), (2, u "out"), (91, u "notSupportedJnuEncoding"), (15, u "in"), (17, u "initialIn"), (0, u "Ljava/io/InputStream;"), (35, u "bootLayer"), (0, u "Ljava/lang/ModuleLayer;"), (99, .class_ 664), (0, u "java/lang/System$2"), (9, u "NEVER"), (2, u "MAYBE"), (49, u "arraycopy"), (0, u "(Ljava/lang/Object;ILjava/lang/Object;II)V"), (72, .class_ 802), (0, u "java/lang/System$Logger$Level")] 31

def k27m0 : Method := { name := "<init>", desc := "()V", sig := { parameters := [], returnType := none }, accessFlags := 2, code := none }
def k27m1 : Method := { name := "arraycopy", desc := "(Ljava/lang/Object;ILjava/lang/Object;II)V", sig := { parameters := [(.object "java/lang/Object"), .int, (.object "java/lang/Object"), .int, .int], returnType := none }, accessFlags := 265, code := none }
/-- java/lang/System -/
def k27 : Class := { plain "java/lang/System" (some 0) with
  accessFlags := 49
  interfaces := #[]
  cf := some (fileOf pool27 8 #[.nestMembers #[319, 327, 801, 108, 663, 208]] #[{ accessFlags := 2, nameIndex := 5, descriptorIndex := 6, attributes := #[] }, { accessFlags := 265, nameIndex := 727, descriptorIndex := 728, attributes := #[] }] 49 2 #[] #[{ accessFlags := 25, nameIndex := 507, descriptorIndex := 526, attributes := #[] }, { accessFlags := 25, nameIndex := 399, descriptorIndex := 155, attributes := #[] }, { accessFlags := 25, nameIndex := 396, descriptorIndex := 155, attributes := #[] }, { accessFlags := 10, nameIndex := 525, descriptorIndex := 526, attributes := #[] }, { accessFlags := 26, nameIndex := 674, descriptorIndex := 12, attributes := #[] }, { accessFlags := 26, nameIndex := 677, descriptorIndex := 12, attributes := #[] }, { accessFlags := 10, nameIndex := 11, descriptorIndex := 12, attributes := #[] }, { accessFlags := 74, nameIndex := 175, descriptorIndex := 176, attributes := #[] }, { accessFlags := 10, nameIndex := 491, descriptorIndex := 222, attributes := #[] }, { accessFlags := 74, nameIndex := 29, descriptorIndex := 30, attributes := #[] }, { accessFlags := 74, nameIndex := 154, descriptorIndex := 155, attributes := #[] }, { accessFlags := 10, nameIndex := 217, descriptorIndex := 218, attributes := #[] }, { accessFlags := 10, nameIndex := 221, descriptorIndex := 222, attributes := #[] }, { accessFlags := 8, nameIndex := 562, descriptorIndex := 563, attributes := #[] }])
  fields := #[{ name := "in", type := (.object "java/io/InputStream"), accessFlags := 25, slot := 0, constantValue := 0 }, { name := "out", type := (.object "java/io/PrintStream"), accessFlags := 25, slot := 1, constantValue := 0 }, { name := "err", type := (.object "java/io/PrintStream"), accessFlags := 25, slot := 2, constantValue := 0 }, { name := "initialIn", type := (.object "java/io/InputStream"), accessFlags := 10, slot := 3, constantValue := 0 }, { name := "NEVER", type := .int, accessFlags := 26, slot := 4, constantValue := 0 }, { name := "MAYBE", type := .int, accessFlags := 26, slot := 5, constantValue := 0 }, { name := "allowSecurityManager", type := .int, accessFlags := 10, slot := 6, constantValue := 0 }, { name := "security", type := (.object "java/lang/SecurityManager"), accessFlags := 74, slot := 7, constantValue := 0 }, { name := "notSupportedJnuEncoding", type := (.object "java/lang/String"), accessFlags := 10, slot := 8, constantValue := 0 }, { name := "cons", type := (.object "java/io/Console"), accessFlags := 74, slot := 9, constantValue := 0 }, { name := "initialErrStream", type := (.object "java/io/PrintStream"), accessFlags := 74, slot := 10, constantValue := 0 }, { name := "props", type := (.object "java/util/Properties"), accessFlags := 10, slot := 11, constantValue := 0 }, { name := "lineSeparator", type := (.object "java/lang/String"), accessFlags := 10, slot := 12, constantValue := 0 }, { name := "bootLayer", type := (.object "java/lang/ModuleLayer"), accessFlags := 8, slot := 13, constantValue := 0 }]
  methods := #[k27m0, k27m1]
  instanceTypes := #[]
  staticTypes := #[(.object "java/io/InputStream"), (.object "java/io/PrintStream"), (.object "java/io/PrintStream"), (.object "java/io/InputStream"), .int, .int, .int, (.object "java/lang/SecurityManager"), (.object "java/lang/String"), (.object "java/io/Console"), (.object "java/io/PrintStream"), (.object "java/util/Properties"), (.object "java/lang/String"), (.object "java/lang/ModuleLayer")]
  resolved := Array.replicate 834 none
  statics := none }

def pool28 : Array CpInfo := pool [(2, .class_ 4), (1, u "java/lang/Object"), (0, u "<init>"), (0, u "()V"), (35, .class_ 44), (1, u "java/util/Objects"), (0, u "requireNonNull"), (0, u "(Ljava/lang/Object;)Ljava/lang/Object;")] 137

def k28m0 : Method := { name := "<init>", desc := "()V", sig := { parameters := [], returnType := none }, accessFlags := 2, code := none }
def k28c1 : Code := { maxStack := 2, maxLocals := 1, code := jdk_31_method_10_code, exceptionTable := #[], attributes := #[] }
def k28m1 : Method := { name := "requireNonNull", desc := "(Ljava/lang/Object;)Ljava/lang/Object;", sig := { parameters := [(.object "java/lang/Object")], returnType := some (.object "java/lang/Object") }, accessFlags := 9, code := some k28c1 }
/-- java/util/Objects -/
def k28 : Class := { plain "java/util/Objects" (some 0) with
  accessFlags := 49
  interfaces := #[]
  cf := some (fileOf pool28 42 #[] #[{ accessFlags := 2, nameIndex := 5, descriptorIndex := 6, attributes := #[] }, { accessFlags := 9, nameIndex := 45, descriptorIndex := 46, attributes := #[] }] 49 2 #[] #[])
  fields := #[]
  methods := #[k28m0, k28m1]
  instanceTypes := #[]
  staticTypes := #[]
  resolved := Array.replicate 184 none
  statics := none }

def pool29 : Array CpInfo := pool [(9, u "<init>"), (6, .class_ 18), (1, u "java/lang/Object"), (0, u "()V"), (1, .class_ 23), (1, u "jdk/internal/util/ArraysSupport"), (0, u "LOG2_ARRAY_LONG_INDEX_SCALE"), (0, u "I"), (2, u "U"), (0, u "Ljdk/internal/misc/Unsafe;"), (8, u "BIG_ENDIAN"), (0, u "Z"), (8, u "LOG2_BYTE_BIT_SIZE"), (4, u "LOG2_ARRAY_INT_INDEX_SCALE"), (54, u "JLA"), (0, u "Ljdk/internal/access/JavaLangAccess;"), (11, u "LOG2_ARRAY_BOOLEAN_INDEX_SCALE"), (9, u "LOG2_ARRAY_BYTE_INDEX_SCALE"), (5, u "LOG2_ARRAY_CHAR_INDEX_SCALE"), (5, u "LOG2_ARRAY_SHORT_INDEX_SCALE"), (18, u "LOG2_ARRAY_FLOAT_INDEX_SCALE"), (24, u "LOG2_ARRAY_DOUBLE_INDEX_SCALE"), (6, .methodref 195 196), (0, .class_ 197), (0, .nameAndType 198 199), (0, u "java/lang/Math"), (0, u "max"), (0, u "(II)I"), (0, .integer 2147483639), (76, u "T_BOOLEAN"), (2, u "T_CHAR"), (1, u "T_FLOAT"), (1, u "T_DOUBLE"), (1, u "T_BYTE"), (1, u "T_SHORT"), (1, u "T_INT"), (1, u "T_LONG"), (1, u "SOFT_MAX_ARRAY_LENGTH"), (56, u "newLength"), (0, u "(III)I")] 25

def k29m0 : Method := { name := "<init>", desc := "()V", sig := { parameters := [], returnType := none }, accessFlags := 2, code := none }
def k29c1 : Code := { maxStack := 3, maxLocals := 4, code := jdk_48_method_27_code, exceptionTable := #[], attributes := #[] }
def k29m1 : Method := { name := "newLength", desc := "(III)I", sig := { parameters := [.int, .int, .int], returnType := some .int }, accessFlags := 9, code := some k29c1 }
/-- jdk/internal/util/ArraysSupport -/
def k29 : Class := { plain "jdk/internal/util/ArraysSupport" (some 0) with
  accessFlags := 33
  interfaces := #[]
  cf := some (fileOf pool29 21 #[] #[{ accessFlags := 2, nameIndex := 9, descriptorIndex := 19, attributes := #[] }, { accessFlags := 9, nameIndex := 351, descriptorIndex := 352, attributes := #[] }] 33 16 #[] #[{ accessFlags := 24, nameIndex := 28, descriptorIndex := 29, attributes := #[] }, { accessFlags := 26, nameIndex := 38, descriptorIndex := 39, attributes := #[] }, { accessFlags := 25, nameIndex := 121, descriptorIndex := 25, attributes := #[] }, { accessFlags := 25, nameIndex := 131, descriptorIndex := 25, attributes := #[] }, { accessFlags := 25, nameIndex := 137, descriptorIndex := 25, attributes := #[] }, { accessFlags := 25, nameIndex := 143, descriptorIndex := 25, attributes := #[] }, { accessFlags := 25, nameIndex := 53, descriptorIndex := 25, attributes := #[] }, { accessFlags := 25, nameIndex := 24, descriptorIndex := 25, attributes := #[] }, { accessFlags := 25, nameIndex := 162, descriptorIndex := 25, attributes := #[] }, { accessFlags := 25, nameIndex := 187, descriptorIndex := 25, attributes := #[] }, { accessFlags := 26, nameIndex := 48, descriptorIndex := 25, attributes := #[] }, { accessFlags := 25, nameIndex := 277, descriptorIndex := 25, attributes := #[] }, { accessFlags := 25, nameIndex := 280, descriptorIndex := 25, attributes := #[] }, { accessFlags := 25, nameIndex := 282, descriptorIndex := 25, attributes := #[] }, { accessFlags := 25, nameIndex := 284, descriptorIndex := 25, attributes := #[] }, { accessFlags := 25, nameIndex := 286, descriptorIndex := 25, attributes := #[] }, { accessFlags := 25, nameIndex := 288, descriptorIndex := 25, attributes := #[] }, { accessFlags := 25, nameIndex := 290, descriptorIndex := 25, attributes := #[] }, { accessFlags := 25, nameIndex := 292, descriptorIndex := 25, attributes := #[] }, { accessFlags := 26, nameIndex := 108, descriptorIndex := 109, attributes := #[] }, { accessFlags := 25, nameIndex := 294, descriptorIndex := 25, attributes := #[] }])
  fields := #[{ name := "U", type := (.object "jdk/internal/misc/Unsafe"), accessFlags := 24, slot := 0, constantValue := 0 }, { name := "BIG_ENDIAN", type := .boolean, accessFlags := 26, slot := 1, constantValue := 0 }, { name := "LOG2_ARRAY_BOOLEAN_INDEX_SCALE", type := .int, accessFlags := 25, slot := 2, constantValue := 0 }, { name := "LOG2_ARRAY_BYTE_INDEX_SCALE", type := .int, accessFlags := 25, slot := 3, constantValue := 0 }, { name := "LOG2_ARRAY_CHAR_INDEX_SCALE", type := .int, accessFlags := 25, slot := 4, constantValue := 0 }, { name := "LOG2_ARRAY_SHORT_INDEX_SCALE", type := .int, accessFlags := 25, slot := 5, constantValue := 0 }, { name := "LOG2_ARRAY_INT_INDEX_SCALE", type := .int, accessFlags := 25, slot := 6, constantValue := 0 }, { name := "LOG2_ARRAY_LONG_INDEX_SCALE", type := .int, accessFlags := 25, slot := 7, constantValue := 0 }, { name := "LOG2_ARRAY_FLOAT_INDEX_SCALE", type := .int, accessFlags := 25, slot := 8, constantValue := 0 }, { name := "LOG2_ARRAY_DOUBLE_INDEX_SCALE", type := .int, accessFlags := 25, slot := 9, constantValue := 0 }, { name := "LOG2_BYTE_BIT_SIZE", type := .int, accessFlags := 26, slot := 10, constantValue := 0 }, { name := "T_BOOLEAN", type := .int, accessFlags := 25, slot := 11, constantValue := 0 }, { name := "T_CHAR", type := .int, accessFlags := 25, slot := 12, constantValue := 0 }, { name := "T_FLOAT", type := .int, accessFlags := 25, slot := 13, constantValue := 0 }, { name := "T_DOUBLE", type := .int, accessFlags := 25, slot := 14, constantValue := 0 }, { name := "T_BYTE", type := .int, accessFlags := 25, slot := 15, constantValue := 0 }, { name := "T_SHORT", type := .int, accessFlags := 25, slot := 16, constantValue := 0 }, { name := "T_INT", type := .int, accessFlags := 25, slot := 17, constantValue := 0 }, { name := "T_LONG", type := .int, accessFlags := 25, slot := 18, constantValue := 0 }, { name := "JLA", type := (.object "jdk/internal/access/JavaLangAccess"), accessFlags := 26, slot := 19, constantValue := 0 }, { name := "SOFT_MAX_ARRAY_LENGTH", type := .int, accessFlags := 25, slot := 20, constantValue := 0 }]
  methods := #[k29m0, k29m1]
  instanceTypes := #[]
  staticTypes := #[(.object "jdk/internal/misc/Unsafe"), .boolean, .int, .int, .int, .int, .int, .int, .int, .int, .int, .int, .int, .int, .int, .int, .int, .int, .int, (.object "jdk/internal/access/JavaLangAccess"), .int]
  resolved := Array.replicate 378 none
  statics := none }

def pool30 : Array CpInfo := pool [(1, u "java/lang/Class"), (0, .class_ 1), (0, u "java/lang/Object"), (0, .class_ 3)] 0

/-- java/lang/Class -/
def k30 : Class := { plain "java/lang/Class" (some 0) with
  accessFlags := 49
  interfaces := #[]
  cf := some (fileOf pool30 2 #[] #[] 49 4 #[] #[])
  fields := #[]
  methods := #[]
  instanceTypes := #[]
  staticTypes := #[]
  resolved := Array.replicate 5 none
  statics := none }

/-- the primitive byte -/
def k31 : Class := { plain "byte" none with kind := .primitive 'B', accessFlags := 0x411 }
/-- [B -/
def k32 : Class := { plain "[B" (some 0) with kind := .array 31 .byte, interfaces := #[11, 12], accessFlags := 1041 }

/-- the primitive int -/
def k33 : Class := { plain "int" none with kind := .primitive 'I', accessFlags := 0x411 }
/-- [I -/
def k34 : Class := { plain "[I" (some 0) with kind := .array 33 .int, interfaces := #[11, 12], accessFlags := 1041 }

/-- [Ljava/lang/Integer; -/
def k35 : Class := { plain "[Ljava/lang/Integer;" (some 0) with kind := .array 18 (.object "java/lang/Integer"), interfaces := #[11, 12], accessFlags := 1041 }

/-- [Ljava/lang/Object; -/
def k36 : Class := { plain "[Ljava/lang/Object;" (some 0) with kind := .array 0 (.object "java/lang/Object"), interfaces := #[11, 12], accessFlags := 1041, mirror := some 3 }

def heap : Heap := #[{ cls := 13, slots := #[.long 0, .int 0, .ref 261, .ref 262], vm := .statics 13 },
  { cls := 19, slots := #[.int 0, .int 127, .ref 4, .null, .int 0], vm := .statics 19 },
  { cls := 21, slots := #[.long 0, .int 0, .null, .ref 263, .ref 264, .null, .null, .null, .int 0, .int 1], vm := .statics 21 },
  { cls := 30, slots := #[], vm := .mirror 36 },
  { cls := 35, slots := #[.ref 5, .ref 6, .ref 7, .ref 8, .ref 9, .ref 10, .ref 11, .ref 12, .ref 13, .ref 14, .ref 15, .ref 16, .ref 17, .ref 18, .ref 19, .ref 20, .ref 21, .ref 22, .ref 23, .ref 24, .ref 25, .ref 26, .ref 27, .ref 28, .ref 29, .ref 30, .ref 31, .ref 32, .ref 33, .ref 34, .ref 35, .ref 36, .ref 37, .ref 38, .ref 39, .ref 40, .ref 41, .ref 42, .ref 43, .ref 44, .ref 45, .ref 46, .ref 47, .ref 48, .ref 49, .ref 50, .ref 51, .ref 52, .ref 53, .ref 54, .ref 55, .ref 56, .ref 57, .ref 58, .ref 59, .ref 60, .ref 61, .ref 62, .ref 63, .ref 64, .ref 65, .ref 66, .ref 67, .ref 68, .ref 69, .ref 70, .ref 71, .ref 72, .ref 73, .ref 74, .ref 75, .ref 76, .ref 77, .ref 78, .ref 79, .ref 80, .ref 81, .ref 82, .ref 83, .ref 84, .ref 85, .ref 86, .ref 87, .ref 88, .ref 89, .ref 90, .ref 91, .ref 92, .ref 93, .ref 94, .ref 95, .ref 96, .ref 97, .ref 98, .ref 99, .ref 100, .ref 101, .ref 102, .ref 103, .ref 104, .ref 105, .ref 106, .ref 107, .ref 108, .ref 109, .ref 110, .ref 111, .ref 112, .ref 113, .ref 114, .ref 115, .ref 116, .ref 117, .ref 118, .ref 119, .ref 120, .ref 121, .ref 122, .ref 123, .ref 124, .ref 125, .ref 126, .ref 127, .ref 128, .ref 129, .ref 130, .ref 131, .ref 132, .ref 133, .ref 134, .ref 135, .ref 136, .ref 137, .ref 138, .ref 139, .ref 140, .ref 141, .ref 142, .ref 143, .ref 144, .ref 145, .ref 146, .ref 147, .ref 148, .ref 149, .ref 150, .ref 151, .ref 152, .ref 153, .ref 154, .ref 155, .ref 156, .ref 157, .ref 158, .ref 159, .ref 160, .ref 161, .ref 162, .ref 163, .ref 164, .ref 165, .ref 166, .ref 167, .ref 168, .ref 169, .ref 170, .ref 171, .ref 172, .ref 173, .ref 174, .ref 175, .ref 176, .ref 177, .ref 178, .ref 179, .ref 180, .ref 181, .ref 182, .ref 183, .ref 184, .ref 185, .ref 186, .ref 187, .ref 188, .ref 189, .ref 190, .ref 191, .ref 192, .ref 193, .ref 194, .ref 195, .ref 196, .ref 197, .ref 198, .ref 199, .ref 200, .ref 201, .ref 202, .ref 203, .ref 204, .ref 205, .ref 206, .ref 207, .ref 208, .ref 209, .ref 210, .ref 211, .ref 212, .ref 213, .ref 214, .ref 215, .ref 216, .ref 217, .ref 218, .ref 219, .ref 220, .ref 221, .ref 222, .ref 223, .ref 224, .ref 225, .ref 226, .ref 227, .ref 228, .ref 229, .ref 230, .ref 231, .ref 232, .ref 233, .ref 234, .ref 235, .ref 236, .ref 237, .ref 238, .ref 239, .ref 240, .ref 241, .ref 242, .ref 243, .ref 244, .ref 245, .ref 246, .ref 247, .ref 248, .ref 249, .ref 250, .ref 251, .ref 252, .ref 253, .ref 254, .ref 255, .ref 256, .ref 257, .ref 258, .ref 259, .ref 260], vm := .none },
  { cls := 18, slots := #[.int (-128)], vm := .none },
  { cls := 18, slots := #[.int (-127)], vm := .none },
  { cls := 18, slots := #[.int (-126)], vm := .none },
  { cls := 18, slots := #[.int (-125)], vm := .none },
  { cls := 18, slots := #[.int (-124)], vm := .none },
  { cls := 18, slots := #[.int (-123)], vm := .none },
  { cls := 18, slots := #[.int (-122)], vm := .none },
  { cls := 18, slots := #[.int (-121)], vm := .none },
  { cls := 18, slots := #[.int (-120)], vm := .none },
  { cls := 18, slots := #[.int (-119)], vm := .none },
  { cls := 18, slots := #[.int (-118)], vm := .none },
  { cls := 18, slots := #[.int (-117)], vm := .none },
  { cls := 18, slots := #[.int (-116)], vm := .none },
  { cls := 18, slots := #[.int (-115)], vm := .none },
  { cls := 18, slots := #[.int (-114)], vm := .none },
  { cls := 18, slots := #[.int (-113)], vm := .none },
  { cls := 18, slots := #[.int (-112)], vm := .none },
  { cls := 18, slots := #[.int (-111)], vm := .none },
  { cls := 18, slots := #[.int (-110)], vm := .none },
  { cls := 18, slots := #[.int (-109)], vm := .none },
  { cls := 18, slots := #[.int (-108)], vm := .none },
  { cls := 18, slots := #[.int (-107)], vm := .none },
  { cls := 18, slots := #[.int (-106)], vm := .none },
  { cls := 18, slots := #[.int (-105)], vm := .none },
  { cls := 18, slots := #[.int (-104)], vm := .none },
  { cls := 18, slots := #[.int (-103)], vm := .none },
  { cls := 18, slots := #[.int (-102)], vm := .none },
  { cls := 18, slots := #[.int (-101)], vm := .none },
  { cls := 18, slots := #[.int (-100)], vm := .none },
  { cls := 18, slots := #[.int (-99)], vm := .none },
  { cls := 18, slots := #[.int (-98)], vm := .none },
  { cls := 18, slots := #[.int (-97)], vm := .none },
  { cls := 18, slots := #[.int (-96)], vm := .none },
  { cls := 18, slots := #[.int (-95)], vm := .none },
  { cls := 18, slots := #[.int (-94)], vm := .none },
  { cls := 18, slots := #[.int (-93)], vm := .none },
  { cls := 18, slots := #[.int (-92)], vm := .none },
  { cls := 18, slots := #[.int (-91)], vm := .none },
  { cls := 18, slots := #[.int (-90)], vm := .none },
  { cls := 18, slots := #[.int (-89)], vm := .none },
  { cls := 18, slots := #[.int (-88)], vm := .none },
  { cls := 18, slots := #[.int (-87)], vm := .none },
  { cls := 18, slots := #[.int (-86)], vm := .none },
  { cls := 18, slots := #[.int (-85)], vm := .none },
  { cls := 18, slots := #[.int (-84)], vm := .none },
  { cls := 18, slots := #[.int (-83)], vm := .none },
  { cls := 18, slots := #[.int (-82)], vm := .none },
  { cls := 18, slots := #[.int (-81)], vm := .none },
  { cls := 18, slots := #[.int (-80)], vm := .none },
  { cls := 18, slots := #[.int (-79)], vm := .none },
  { cls := 18, slots := #[.int (-78)], vm := .none },
  { cls := 18, slots := #[.int (-77)], vm := .none },
  { cls := 18, slots := #[.int (-76)], vm := .none },
  { cls := 18, slots := #[.int (-75)], vm := .none },
  { cls := 18, slots := #[.int (-74)], vm := .none },
  { cls := 18, slots := #[.int (-73)], vm := .none },
  { cls := 18, slots := #[.int (-72)], vm := .none },
  { cls := 18, slots := #[.int (-71)], vm := .none },
  { cls := 18, slots := #[.int (-70)], vm := .none },
  { cls := 18, slots := #[.int (-69)], vm := .none },
  { cls := 18, slots := #[.int (-68)], vm := .none },
  { cls := 18, slots := #[.int (-67)], vm := .none },
  { cls := 18, slots := #[.int (-66)], vm := .none },
  { cls := 18, slots := #[.int (-65)], vm := .none },
  { cls := 18, slots := #[.int (-64)], vm := .none },
  { cls := 18, slots := #[.int (-63)], vm := .none },
  { cls := 18, slots := #[.int (-62)], vm := .none },
  { cls := 18, slots := #[.int (-61)], vm := .none },
  { cls := 18, slots := #[.int (-60)], vm := .none },
  { cls := 18, slots := #[.int (-59)], vm := .none },
  { cls := 18, slots := #[.int (-58)], vm := .none },
  { cls := 18, slots := #[.int (-57)], vm := .none },
  { cls := 18, slots := #[.int (-56)], vm := .none },
  { cls := 18, slots := #[.int (-55)], vm := .none },
  { cls := 18, slots := #[.int (-54)], vm := .none },
  { cls := 18, slots := #[.int (-53)], vm := .none },
  { cls := 18, slots := #[.int (-52)], vm := .none },
  { cls := 18, slots := #[.int (-51)], vm := .none },
  { cls := 18, slots := #[.int (-50)], vm := .none },
  { cls := 18, slots := #[.int (-49)], vm := .none },
  { cls := 18, slots := #[.int (-48)], vm := .none },
  { cls := 18, slots := #[.int (-47)], vm := .none },
  { cls := 18, slots := #[.int (-46)], vm := .none },
  { cls := 18, slots := #[.int (-45)], vm := .none },
  { cls := 18, slots := #[.int (-44)], vm := .none },
  { cls := 18, slots := #[.int (-43)], vm := .none },
  { cls := 18, slots := #[.int (-42)], vm := .none },
  { cls := 18, slots := #[.int (-41)], vm := .none },
  { cls := 18, slots := #[.int (-40)], vm := .none },
  { cls := 18, slots := #[.int (-39)], vm := .none },
  { cls := 18, slots := #[.int (-38)], vm := .none },
  { cls := 18, slots := #[.int (-37)], vm := .none },
  { cls := 18, slots := #[.int (-36)], vm := .none },
  { cls := 18, slots := #[.int (-35)], vm := .none },
  { cls := 18, slots := #[.int (-34)], vm := .none },
  { cls := 18, slots := #[.int (-33)], vm := .none },
  { cls := 18, slots := #[.int (-32)], vm := .none },
  { cls := 18, slots := #[.int (-31)], vm := .none },
  { cls := 18, slots := #[.int (-30)], vm := .none },
  { cls := 18, slots := #[.int (-29)], vm := .none },
  { cls := 18, slots := #[.int (-28)], vm := .none },
  { cls := 18, slots := #[.int (-27)], vm := .none },
  { cls := 18, slots := #[.int (-26)], vm := .none },
  { cls := 18, slots := #[.int (-25)], vm := .none },
  { cls := 18, slots := #[.int (-24)], vm := .none },
  { cls := 18, slots := #[.int (-23)], vm := .none },
  { cls := 18, slots := #[.int (-22)], vm := .none },
  { cls := 18, slots := #[.int (-21)], vm := .none },
  { cls := 18, slots := #[.int (-20)], vm := .none },
  { cls := 18, slots := #[.int (-19)], vm := .none },
  { cls := 18, slots := #[.int (-18)], vm := .none },
  { cls := 18, slots := #[.int (-17)], vm := .none },
  { cls := 18, slots := #[.int (-16)], vm := .none },
  { cls := 18, slots := #[.int (-15)], vm := .none },
  { cls := 18, slots := #[.int (-14)], vm := .none },
  { cls := 18, slots := #[.int (-13)], vm := .none },
  { cls := 18, slots := #[.int (-12)], vm := .none },
  { cls := 18, slots := #[.int (-11)], vm := .none },
  { cls := 18, slots := #[.int (-10)], vm := .none },
  { cls := 18, slots := #[.int (-9)], vm := .none },
  { cls := 18, slots := #[.int (-8)], vm := .none },
  { cls := 18, slots := #[.int (-7)], vm := .none },
  { cls := 18, slots := #[.int (-6)], vm := .none },
  { cls := 18, slots := #[.int (-5)], vm := .none },
  { cls := 18, slots := #[.int (-4)], vm := .none },
  { cls := 18, slots := #[.int (-3)], vm := .none },
  { cls := 18, slots := #[.int (-2)], vm := .none },
  { cls := 18, slots := #[.int (-1)], vm := .none },
  { cls := 18, slots := #[.int 0], vm := .none },
  { cls := 18, slots := #[.int 1], vm := .none },
  { cls := 18, slots := #[.int 2], vm := .none },
  { cls := 18, slots := #[.int 3], vm := .none },
  { cls := 18, slots := #[.int 4], vm := .none },
  { cls := 18, slots := #[.int 5], vm := .none },
  { cls := 18, slots := #[.int 6], vm := .none },
  { cls := 18, slots := #[.int 7], vm := .none },
  { cls := 18, slots := #[.int 8], vm := .none },
  { cls := 18, slots := #[.int 9], vm := .none },
  { cls := 18, slots := #[.int 10], vm := .none },
  { cls := 18, slots := #[.int 11], vm := .none },
  { cls := 18, slots := #[.int 12], vm := .none },
  { cls := 18, slots := #[.int 13], vm := .none },
  { cls := 18, slots := #[.int 14], vm := .none },
  { cls := 18, slots := #[.int 15], vm := .none },
  { cls := 18, slots := #[.int 16], vm := .none },
  { cls := 18, slots := #[.int 17], vm := .none },
  { cls := 18, slots := #[.int 18], vm := .none },
  { cls := 18, slots := #[.int 19], vm := .none },
  { cls := 18, slots := #[.int 20], vm := .none },
  { cls := 18, slots := #[.int 21], vm := .none },
  { cls := 18, slots := #[.int 22], vm := .none },
  { cls := 18, slots := #[.int 23], vm := .none },
  { cls := 18, slots := #[.int 24], vm := .none },
  { cls := 18, slots := #[.int 25], vm := .none },
  { cls := 18, slots := #[.int 26], vm := .none },
  { cls := 18, slots := #[.int 27], vm := .none },
  { cls := 18, slots := #[.int 28], vm := .none },
  { cls := 18, slots := #[.int 29], vm := .none },
  { cls := 18, slots := #[.int 30], vm := .none },
  { cls := 18, slots := #[.int 31], vm := .none },
  { cls := 18, slots := #[.int 32], vm := .none },
  { cls := 18, slots := #[.int 33], vm := .none },
  { cls := 18, slots := #[.int 34], vm := .none },
  { cls := 18, slots := #[.int 35], vm := .none },
  { cls := 18, slots := #[.int 36], vm := .none },
  { cls := 18, slots := #[.int 37], vm := .none },
  { cls := 18, slots := #[.int 38], vm := .none },
  { cls := 18, slots := #[.int 39], vm := .none },
  { cls := 18, slots := #[.int 40], vm := .none },
  { cls := 18, slots := #[.int 41], vm := .none },
  { cls := 18, slots := #[.int 42], vm := .none },
  { cls := 18, slots := #[.int 43], vm := .none },
  { cls := 18, slots := #[.int 44], vm := .none },
  { cls := 18, slots := #[.int 45], vm := .none },
  { cls := 18, slots := #[.int 46], vm := .none },
  { cls := 18, slots := #[.int 47], vm := .none },
  { cls := 18, slots := #[.int 48], vm := .none },
  { cls := 18, slots := #[.int 49], vm := .none },
  { cls := 18, slots := #[.int 50], vm := .none },
  { cls := 18, slots := #[.int 51], vm := .none },
  { cls := 18, slots := #[.int 52], vm := .none },
  { cls := 18, slots := #[.int 53], vm := .none },
  { cls := 18, slots := #[.int 54], vm := .none },
  { cls := 18, slots := #[.int 55], vm := .none },
  { cls := 18, slots := #[.int 56], vm := .none },
  { cls := 18, slots := #[.int 57], vm := .none },
  { cls := 18, slots := #[.int 58], vm := .none },
  { cls := 18, slots := #[.int 59], vm := .none },
  { cls := 18, slots := #[.int 60], vm := .none },
  { cls := 18, slots := #[.int 61], vm := .none },
  { cls := 18, slots := #[.int 62], vm := .none },
  { cls := 18, slots := #[.int 63], vm := .none },
  { cls := 18, slots := #[.int 64], vm := .none },
  { cls := 18, slots := #[.int 65], vm := .none },
  { cls := 18, slots := #[.int 66], vm := .none },
  { cls := 18, slots := #[.int 67], vm := .none },
  { cls := 18, slots := #[.int 68], vm := .none },
  { cls := 18, slots := #[.int 69], vm := .none },
  { cls := 18, slots := #[.int 70], vm := .none },
  { cls := 18, slots := #[.int 71], vm := .none },
  { cls := 18, slots := #[.int 72], vm := .none },
  { cls := 18, slots := #[.int 73], vm := .none },
  { cls := 18, slots := #[.int 74], vm := .none },
  { cls := 18, slots := #[.int 75], vm := .none },
  { cls := 18, slots := #[.int 76], vm := .none },
  { cls := 18, slots := #[.int 77], vm := .none },
  { cls := 18, slots := #[.int 78], vm := .none },
  { cls := 18, slots := #[.int 79], vm := .none },
  { cls := 18, slots := #[.int 80], vm := .none },
  { cls := 18, slots := #[.int 81], vm := .none },
  { cls := 18, slots := #[.int 82], vm := .none },
  { cls := 18, slots := #[.int 83], vm := .none },
  { cls := 18, slots := #[.int 84], vm := .none },
  { cls := 18, slots := #[.int 85], vm := .none },
  { cls := 18, slots := #[.int 86], vm := .none },
  { cls := 18, slots := #[.int 87], vm := .none },
  { cls := 18, slots := #[.int 88], vm := .none },
  { cls := 18, slots := #[.int 89], vm := .none },
  { cls := 18, slots := #[.int 90], vm := .none },
  { cls := 18, slots := #[.int 91], vm := .none },
  { cls := 18, slots := #[.int 92], vm := .none },
  { cls := 18, slots := #[.int 93], vm := .none },
  { cls := 18, slots := #[.int 94], vm := .none },
  { cls := 18, slots := #[.int 95], vm := .none },
  { cls := 18, slots := #[.int 96], vm := .none },
  { cls := 18, slots := #[.int 97], vm := .none },
  { cls := 18, slots := #[.int 98], vm := .none },
  { cls := 18, slots := #[.int 99], vm := .none },
  { cls := 18, slots := #[.int 100], vm := .none },
  { cls := 18, slots := #[.int 101], vm := .none },
  { cls := 18, slots := #[.int 102], vm := .none },
  { cls := 18, slots := #[.int 103], vm := .none },
  { cls := 18, slots := #[.int 104], vm := .none },
  { cls := 18, slots := #[.int 105], vm := .none },
  { cls := 18, slots := #[.int 106], vm := .none },
  { cls := 18, slots := #[.int 107], vm := .none },
  { cls := 18, slots := #[.int 108], vm := .none },
  { cls := 18, slots := #[.int 109], vm := .none },
  { cls := 18, slots := #[.int 110], vm := .none },
  { cls := 18, slots := #[.int 111], vm := .none },
  { cls := 18, slots := #[.int 112], vm := .none },
  { cls := 18, slots := #[.int 113], vm := .none },
  { cls := 18, slots := #[.int 114], vm := .none },
  { cls := 18, slots := #[.int 115], vm := .none },
  { cls := 18, slots := #[.int 116], vm := .none },
  { cls := 18, slots := #[.int 117], vm := .none },
  { cls := 18, slots := #[.int 118], vm := .none },
  { cls := 18, slots := #[.int 119], vm := .none },
  { cls := 18, slots := #[.int 120], vm := .none },
  { cls := 18, slots := #[.int 121], vm := .none },
  { cls := 18, slots := #[.int 122], vm := .none },
  { cls := 18, slots := #[.int 123], vm := .none },
  { cls := 18, slots := #[.int 124], vm := .none },
  { cls := 18, slots := #[.int 125], vm := .none },
  { cls := 18, slots := #[.int 126], vm := .none },
  { cls := 18, slots := #[.int 127], vm := .none },
  { cls := 36, slots := #[], vm := .none },
  { cls := 36, slots := #[], vm := .none },
  { cls := 0, slots := #[], vm := .none },
  { cls := 25, slots := #[.null, .int 0], vm := .none }]
def classes : Array Class := #[k0, k1, k2, k3, k4, k5, k6, k7, k8, k9, k10, k11, k12, k13, k14, k15, k16, k17, k18, k19, k20, k21, k22, k23, k24, k25, k26, k27, k28, k29, k30, k31, k32, k33, k34, k35, k36]
def interned : List (Array UInt16 × Addr) := []
def slotsUsed : Nat := 533
def theMethod : MethodId := ⟨1, 1⟩
def args0 : Array Value := #[.int 5, .int 5, .int 5, .int 5]
def aboutOver (below : List Frame) : State where
  vm := { classes := classes, interned := interned.toArray }
  heap := heap
  slotsUsed := slotsUsed
  threads := #[{ frames := .invoking theMethod args0 :: below }]
def below0 : List Frame := [.native { method := ⟨0, 0⟩, args := #[] }]
def about1 : State := aboutOver below0
def p0 : Program := .bare "" "" ""
def e0 : Env := launch0.env 0 0 0
theorem w_frames : about1.frames = Frame.invoking theMethod args0 :: below0 := rfl
set_option maxRecDepth 65536 in
theorem w_args : argsFit about1.vm theMethod args0 = true := by decide +kernel
set_option maxRecDepth 65536 in
theorem w_heap : heapFits about1 = true := by decide +kernel
set_option maxRecDepth 65536 in
theorem w_runnable : about1.curStatus? = some .runnable := by decide +kernel
set_option maxRecDepth 65536 in
theorem w_alone : about1.alone = true := by decide +kernel
set_option maxRecDepth 65536 in
theorem w_named : about1.methodNamed? x = some theMethod := by decide +kernel
set_option maxRecDepth 65536 in
theorem w_hears : about1.hears theMethod below0 = true := by decide +kernel
set_option maxRecDepth 65536 in
theorem w_ripe : about1.ripe theMethod args0 below0 = true := by decide +kernel
theorem w_running : about1.status = .running := rfl
set_option maxRecDepth 65536 in
theorem w_room : about1.hasRoom e0.platform room_1 = true :=
  launch0.hasRoom_least _ room_1 (by decide +kernel) (by decide +kernel) (by decide +kernel) (by decide +kernel) (by decide +kernel) (by decide +kernel)
theorem allAtoms_all (ts : List Jvm.Cond) (a : Array Jvm.Value) (st : Jvm.State) : (allAtoms ts).before a st = ts.all (fun c => c.before a st) := by
  induction ts with
  | nil => rfl
  | cons c t ih =>
    show (Jvm.Cond.and c (allAtoms t)).before a st = _
    rw [Jvm.Cond.before_and, ih, List.all_cons]
def words1 : List Jvm.Cond := Jvm.Cond.code x code maxLocals ret :: tables_1
/-- a 'code' word, met by the world's own term for the bytes: nothing is compared byte by byte -/
theorem code_word {y : MethodName} {bytes : ByteArray} {mx : Nat} {rt : Option FieldType} {a : Array Value} {s : State} {m : MethodId} {meth : Method} {c : Code} (h1 : s.methodNamed? y = some m) (h2 : s.vm.method? m = some meth) (h3 : meth.code = some c) (h4 : c.code = bytes)
    (h5 : (c.maxLocals == mx && c.exceptionTable.isEmpty && decide (c.maxStack ≤ mostOperands) && decide (meth.sig.returnType = rt) && !meth.locks && decide (parseMethodDescriptor y.desc = some meth.sig)) = true) : (Jvm.Cond.code y bytes mx rt).before a s = true := by
  simp only [Bool.and_eq_true, beq_iff_eq, Bool.not_eq_true', decide_eq_true_eq] at h5
  obtain ⟨⟨⟨⟨⟨g1, g2⟩, g3⟩, g4⟩, g5⟩, g6⟩ := h5
  simp [Cond.before, Cond.holds, Cond.value, h1, h2, h3, h4, g1, g2, g3, g4, g5, g6]
def isCode : Jvm.Cond → Bool
  | .code _ _ _ _ => true
  | _ => false
theorem all_split {L : List Jvm.Cond} {P : Jvm.Cond → Bool} (h1 : L.all (fun c => isCode c || P c) = true) (h2 : ∀ c ∈ L.filter isCode, P c = true) : L.all P = true := by
  refine List.all_eq_true.mpr fun c hc => ?_
  have h := List.all_eq_true.mp h1 c hc
  rcases Bool.eq_false_or_eq_true (isCode c) with hi | hi
  · exact h2 c (List.mem_filter.mpr ⟨hc, hi⟩)
  · simpa [hi] using h
set_option maxRecDepth 65536 in
theorem w_c0 : (Jvm.Cond.code x code maxLocals ret).before args0 about1 = true := code_word (m := ⟨1, 1⟩) (meth := k1m1) (c := k1c1) (by decide +kernel) rfl rfl rfl (by decide +kernel)
set_option maxRecDepth 65536 in
theorem w_c1 : (Jvm.Cond.code ({ cls := "com/example/measured_crawler/measuredcrawler/eval/measure/Trajectory", name := "checkpoints", desc := "(II)Ljava/util/List;" } : Jvm.MethodName) prog_25_method_2_code (4 : Nat) (Option.some (Jvm.ClassFile.FieldType.object "java/util/List"))).before args0 about1 = true := code_word (m := ⟨3, 0⟩) (meth := k3m0) (c := k3c0) (by decide +kernel) rfl rfl rfl (by decide +kernel)
set_option maxRecDepth 65536 in
theorem w_c2 : (Jvm.Cond.code ({ cls := "java/util/ArrayList", name := "<init>", desc := "()V" } : Jvm.MethodName) jdk_38_method_2_code (1 : Nat) (Option.none : Option Jvm.ClassFile.FieldType)).before args0 about1 = true := code_word (m := ⟨13, 0⟩) (meth := k13m0) (c := k13c0) (by decide +kernel) rfl rfl rfl (by decide +kernel)
set_option maxRecDepth 65536 in
theorem w_c3 : (Jvm.Cond.code ({ cls := "java/util/AbstractList", name := "<init>", desc := "()V" } : Jvm.MethodName) jdk_39_method_1_code (1 : Nat) (Option.none : Option Jvm.ClassFile.FieldType)).before args0 about1 = true := code_word (m := ⟨9, 0⟩) (meth := k9m0) (c := k9c0) (by decide +kernel) rfl rfl rfl (by decide +kernel)
set_option maxRecDepth 65536 in
theorem w_c4 : (Jvm.Cond.code ({ cls := "java/util/AbstractCollection", name := "<init>", desc := "()V" } : Jvm.MethodName) jdk_22_method_1_code (1 : Nat) (Option.none : Option Jvm.ClassFile.FieldType)).before args0 about1 = true := code_word (m := ⟨6, 0⟩) (meth := k6m0) (c := k6c0) (by decide +kernel) rfl rfl rfl (by decide +kernel)
set_option maxRecDepth 65536 in
theorem w_c5 : (Jvm.Cond.code ({ cls := "java/lang/Object", name := "<init>", desc := "()V" } : Jvm.MethodName) object_method_1_code (1 : Nat) (Option.none : Option Jvm.ClassFile.FieldType)).before args0 about1 = true := code_word (m := ⟨0, 0⟩) (meth := k0m0) (c := k0c0) (by decide +kernel) rfl rfl rfl (by decide +kernel)
set_option maxRecDepth 65536 in
theorem w_c6 : (Jvm.Cond.code ({ cls := "java/lang/Integer", name := "valueOf", desc := "(I)Ljava/lang/Integer;" } : Jvm.MethodName) jdk_33_method_22_code (1 : Nat) (Option.some (Jvm.ClassFile.FieldType.object "java/lang/Integer"))).before args0 about1 = true := code_word (m := ⟨18, 0⟩) (meth := k18m0) (c := k18c0) (by decide +kernel) rfl rfl rfl (by decide +kernel)
set_option maxRecDepth 65536 in
theorem w_c7 : (Jvm.Cond.code ({ cls := "java/util/ArrayList", name := "add", desc := "(Ljava/lang/Object;)Z" } : Jvm.MethodName) jdk_38_method_25_code (2 : Nat) (Option.some Jvm.ClassFile.FieldType.boolean)).before args0 about1 = true := code_word (m := ⟨13, 6⟩) (meth := k13m6) (c := k13c6) (by decide +kernel) rfl rfl rfl (by decide +kernel)
set_option maxRecDepth 65536 in
theorem w_c8 : (Jvm.Cond.code ({ cls := "java/util/ArrayList", name := "add", desc := "(Ljava/lang/Object;[Ljava/lang/Object;I)V" } : Jvm.MethodName) jdk_38_method_24_code (4 : Nat) (Option.none : Option Jvm.ClassFile.FieldType)).before args0 about1 = true := code_word (m := ⟨13, 5⟩) (meth := k13m5) (c := k13c5) (by decide +kernel) rfl rfl rfl (by decide +kernel)
set_option maxRecDepth 65536 in
theorem w_c9 : (Jvm.Cond.code ({ cls := "java/util/ArrayList", name := "grow", desc := "()[Ljava/lang/Object;" } : Jvm.MethodName) jdk_38_method_7_code (1 : Nat) (Option.some (Jvm.ClassFile.FieldType.array (Jvm.ClassFile.FieldType.object "java/lang/Object")))).before args0 about1 = true := code_word (m := ⟨13, 2⟩) (meth := k13m2) (c := k13c2) (by decide +kernel) rfl rfl rfl (by decide +kernel)
set_option maxRecDepth 65536 in
theorem w_c10 : (Jvm.Cond.code ({ cls := "java/util/ArrayList", name := "grow", desc := "(I)[Ljava/lang/Object;" } : Jvm.MethodName) jdk_38_method_6_code (4 : Nat) (Option.some (Jvm.ClassFile.FieldType.array (Jvm.ClassFile.FieldType.object "java/lang/Object")))).before args0 about1 = true := code_word (m := ⟨13, 1⟩) (meth := k13m1) (c := k13c1) (by decide +kernel) rfl rfl rfl (by decide +kernel)
set_option maxRecDepth 65536 in
theorem w_c11 : (Jvm.Cond.code ({ cls := "java/lang/Math", name := "max", desc := "(II)I" } : Jvm.MethodName) jdk_29_method_65_code (2 : Nat) (Option.some Jvm.ClassFile.FieldType.int)).before args0 about1 = true := code_word (m := ⟨20, 1⟩) (meth := k20m1) (c := k20c1) (by decide +kernel) rfl rfl rfl (by decide +kernel)
set_option maxRecDepth 65536 in
theorem w_c12 : (Jvm.Cond.code ({ cls := "java/util/List", name := "copyOf", desc := "(Ljava/util/Collection;)Ljava/util/List;" } : Jvm.MethodName) jdk_40_method_48_code (1 : Nat) (Option.some (Jvm.ClassFile.FieldType.object "java/util/List"))).before args0 about1 = true := code_word (m := ⟨8, 4⟩) (meth := k8m4) (c := k8c4) (by decide +kernel) rfl rfl rfl (by decide +kernel)
set_option maxRecDepth 65536 in
theorem w_c13 : (Jvm.Cond.code ({ cls := "java/util/ImmutableCollections", name := "listCopy", desc := "(Ljava/util/Collection;)Ljava/util/List;" } : Jvm.MethodName) jdk_56_method_3_code (2 : Nat) (Option.some (Jvm.ClassFile.FieldType.object "java/util/List"))).before args0 about1 = true := code_word (m := ⟨21, 1⟩) (meth := k21m1) (c := k21c1) (by decide +kernel) rfl rfl rfl (by decide +kernel)
set_option maxRecDepth 65536 in
theorem w_c14 : (Jvm.Cond.code ({ cls := "java/util/ArrayList", name := "isEmpty", desc := "()Z" } : Jvm.MethodName) jdk_38_method_9_code (1 : Nat) (Option.some Jvm.ClassFile.FieldType.boolean)).before args0 about1 = true := code_word (m := ⟨13, 3⟩) (meth := k13m3) (c := k13c3) (by decide +kernel) rfl rfl rfl (by decide +kernel)
set_option maxRecDepth 65536 in
theorem w_c15 : (Jvm.Cond.code ({ cls := "java/util/ArrayList", name := "toArray", desc := "()[Ljava/lang/Object;" } : Jvm.MethodName) jdk_38_method_16_code (1 : Nat) (Option.some (Jvm.ClassFile.FieldType.array (Jvm.ClassFile.FieldType.object "java/lang/Object")))).before args0 about1 = true := code_word (m := ⟨13, 4⟩) (meth := k13m4) (c := k13c4) (by decide +kernel) rfl rfl rfl (by decide +kernel)
set_option maxRecDepth 65536 in
theorem w_c16 : (Jvm.Cond.code ({ cls := "java/util/Arrays", name := "copyOf", desc := "([Ljava/lang/Object;I)[Ljava/lang/Object;" } : Jvm.MethodName) jdk_65_method_119_code (2 : Nat) (Option.some (Jvm.ClassFile.FieldType.array (Jvm.ClassFile.FieldType.object "java/lang/Object")))).before args0 about1 = true := code_word (m := ⟨26, 1⟩) (meth := k26m1) (c := k26c1) (by decide +kernel) rfl rfl rfl (by decide +kernel)
set_option maxRecDepth 65536 in
theorem w_c17 : (Jvm.Cond.code ({ cls := "java/util/Arrays", name := "copyOf", desc := "([Ljava/lang/Object;ILjava/lang/Class;)[Ljava/lang/Object;" } : Jvm.MethodName) jdk_65_method_120_code (4 : Nat) (Option.some (Jvm.ClassFile.FieldType.array (Jvm.ClassFile.FieldType.object "java/lang/Object")))).before args0 about1 = true := code_word (m := ⟨26, 2⟩) (meth := k26m2) (c := k26c2) (by decide +kernel) rfl rfl rfl (by decide +kernel)
set_option maxRecDepth 65536 in
theorem w_c18 : (Jvm.Cond.code ({ cls := "java/lang/Math", name := "min", desc := "(II)I" } : Jvm.MethodName) jdk_29_method_69_code (2 : Nat) (Option.some Jvm.ClassFile.FieldType.int)).before args0 about1 = true := code_word (m := ⟨20, 2⟩) (meth := k20m2) (c := k20c2) (by decide +kernel) rfl rfl rfl (by decide +kernel)
set_option maxRecDepth 65536 in
theorem w_c19 : (Jvm.Cond.code ({ cls := "java/util/List", name := "of", desc := "([Ljava/lang/Object;)Ljava/util/List;" } : Jvm.MethodName) jdk_40_method_47_code (2 : Nat) (Option.some (Jvm.ClassFile.FieldType.object "java/util/List"))).before args0 about1 = true := code_word (m := ⟨8, 3⟩) (meth := k8m3) (c := k8c3) (by decide +kernel) rfl rfl rfl (by decide +kernel)
set_option maxRecDepth 65536 in
theorem w_c20 : (Jvm.Cond.code ({ cls := "java/util/ImmutableCollections", name := "listFromArray", desc := "([Ljava/lang/Object;)Ljava/util/List;" } : Jvm.MethodName) jdk_56_method_4_code (3 : Nat) (Option.some (Jvm.ClassFile.FieldType.object "java/util/List"))).before args0 about1 = true := code_word (m := ⟨21, 2⟩) (meth := k21m2) (c := k21c2) (by decide +kernel) rfl rfl rfl (by decide +kernel)
set_option maxRecDepth 65536 in
theorem w_c21 : (Jvm.Cond.code ({ cls := "java/util/Objects", name := "requireNonNull", desc := "(Ljava/lang/Object;)Ljava/lang/Object;" } : Jvm.MethodName) jdk_31_method_10_code (1 : Nat) (Option.some (Jvm.ClassFile.FieldType.object "java/lang/Object"))).before args0 about1 = true := code_word (m := ⟨28, 1⟩) (meth := k28m1) (c := k28c1) (by decide +kernel) rfl rfl rfl (by decide +kernel)
set_option maxRecDepth 65536 in
theorem w_c22 : (Jvm.Cond.code ({ cls := "java/util/ImmutableCollections$ListN", name := "<init>", desc := "([Ljava/lang/Object;Z)V" } : Jvm.MethodName) jdk_45_method_1_code (3 : Nat) (Option.none : Option Jvm.ClassFile.FieldType)).before args0 about1 = true := code_word (m := ⟨25, 0⟩) (meth := k25m0) (c := k25c0) (by decide +kernel) rfl rfl rfl (by decide +kernel)
set_option maxRecDepth 65536 in
theorem w_c23 : (Jvm.Cond.code ({ cls := "java/util/ImmutableCollections$AbstractImmutableList", name := "<init>", desc := "()V" } : Jvm.MethodName) jdk_46_method_1_code (1 : Nat) (Option.none : Option Jvm.ClassFile.FieldType)).before args0 about1 = true := code_word (m := ⟨23, 0⟩) (meth := k23m0) (c := k23c0) (by decide +kernel) rfl rfl rfl (by decide +kernel)
set_option maxRecDepth 65536 in
theorem w_c24 : (Jvm.Cond.code ({ cls := "java/util/ImmutableCollections$AbstractImmutableCollection", name := "<init>", desc := "()V" } : Jvm.MethodName) jdk_47_method_1_code (1 : Nat) (Option.none : Option Jvm.ClassFile.FieldType)).before args0 about1 = true := code_word (m := ⟨22, 0⟩) (meth := k22m0) (c := k22c0) (by decide +kernel) rfl rfl rfl (by decide +kernel)
set_option maxRecDepth 65536 in
theorem w_c25 : (Jvm.Cond.code ({ cls := "java/util/ImmutableCollections$ListN", name := "size", desc := "()I" } : Jvm.MethodName) jdk_45_method_3_code (1 : Nat) (Option.some Jvm.ClassFile.FieldType.int)).before args0 about1 = true := code_word (m := ⟨25, 1⟩) (meth := k25m1) (c := k25c1) (by decide +kernel) rfl rfl rfl (by decide +kernel)
set_option maxRecDepth 65536 in
theorem w_c26 : (Jvm.Cond.code ({ cls := "java/util/ImmutableCollections$ListN", name := "get", desc := "(I)Ljava/lang/Object;" } : Jvm.MethodName) jdk_45_method_4_code (2 : Nat) (Option.some (Jvm.ClassFile.FieldType.object "java/lang/Object"))).before args0 about1 = true := code_word (m := ⟨25, 2⟩) (meth := k25m2) (c := k25c2) (by decide +kernel) rfl rfl rfl (by decide +kernel)
set_option maxRecDepth 65536 in
theorem w_c27 : (Jvm.Cond.code ({ cls := "java/lang/Integer", name := "intValue", desc := "()I" } : Jvm.MethodName) jdk_33_method_27_code (1 : Nat) (Option.some Jvm.ClassFile.FieldType.int)).before args0 about1 = true := code_word (m := ⟨18, 2⟩) (meth := k18m2) (c := k18c2) (by decide +kernel) rfl rfl rfl (by decide +kernel)
set_option maxRecDepth 65536 in
theorem w_c28 : (Jvm.Cond.code ({ cls := "java/lang/Integer", name := "<init>", desc := "(I)V" } : Jvm.MethodName) jdk_33_method_23_code (2 : Nat) (Option.none : Option Jvm.ClassFile.FieldType)).before args0 about1 = true := code_word (m := ⟨18, 1⟩) (meth := k18m1) (c := k18c1) (by decide +kernel) rfl rfl rfl (by decide +kernel)
set_option maxRecDepth 65536 in
theorem w_c29 : (Jvm.Cond.code ({ cls := "java/lang/Number", name := "<init>", desc := "()V" } : Jvm.MethodName) jdk_18_method_1_code (1 : Nat) (Option.none : Option Jvm.ClassFile.FieldType)).before args0 about1 = true := code_word (m := ⟨14, 0⟩) (meth := k14m0) (c := k14c0) (by decide +kernel) rfl rfl rfl (by decide +kernel)
set_option maxRecDepth 65536 in
theorem w_c30 : (Jvm.Cond.code ({ cls := "jdk/internal/util/ArraysSupport", name := "newLength", desc := "(III)I" } : Jvm.MethodName) jdk_48_method_27_code (4 : Nat) (Option.some Jvm.ClassFile.FieldType.int)).before args0 about1 = true := code_word (m := ⟨29, 1⟩) (meth := k29m1) (c := k29c1) (by decide +kernel) rfl rfl rfl (by decide +kernel)
set_option maxRecDepth 65536 in
theorem w_c31 : (Jvm.Cond.code ({ cls := "java/util/ImmutableCollections$List12", name := "<init>", desc := "(Ljava/lang/Object;)V" } : Jvm.MethodName) jdk_44_method_1_code (2 : Nat) (Option.none : Option Jvm.ClassFile.FieldType)).before args0 about1 = true := code_word (m := ⟨24, 0⟩) (meth := k24m0) (c := k24c0) (by decide +kernel) rfl rfl rfl (by decide +kernel)
set_option maxRecDepth 65536 in
theorem w_c32 : (Jvm.Cond.code ({ cls := "java/util/ImmutableCollections$List12", name := "size", desc := "()I" } : Jvm.MethodName) jdk_44_method_3_code (1 : Nat) (Option.some Jvm.ClassFile.FieldType.int)).before args0 about1 = true := code_word (m := ⟨24, 2⟩) (meth := k24m2) (c := k24c2) (by decide +kernel) rfl rfl rfl (by decide +kernel)
set_option maxRecDepth 65536 in
theorem w_c33 : (Jvm.Cond.code ({ cls := "java/util/ImmutableCollections$List12", name := "get", desc := "(I)Ljava/lang/Object;" } : Jvm.MethodName) jdk_44_method_5_code (2 : Nat) (Option.some (Jvm.ClassFile.FieldType.object "java/lang/Object"))).before args0 about1 = true := code_word (m := ⟨24, 3⟩) (meth := k24m3) (c := k24c3) (by decide +kernel) rfl rfl rfl (by decide +kernel)
set_option maxRecDepth 65536 in
theorem w_c34 : (Jvm.Cond.code ({ cls := "java/util/ImmutableCollections$List12", name := "<init>", desc := "(Ljava/lang/Object;Ljava/lang/Object;)V" } : Jvm.MethodName) jdk_44_method_2_code (3 : Nat) (Option.none : Option Jvm.ClassFile.FieldType)).before args0 about1 = true := code_word (m := ⟨24, 1⟩) (meth := k24m1) (c := k24c1) (by decide +kernel) rfl rfl rfl (by decide +kernel)
def codes1 : List Jvm.Cond := [Jvm.Cond.code x code maxLocals ret, Jvm.Cond.code ({ cls := "com/example/measured_crawler/measuredcrawler/eval/measure/Trajectory", name := "checkpoints", desc := "(II)Ljava/util/List;" } : Jvm.MethodName) prog_25_method_2_code (4 : Nat) (Option.some (Jvm.ClassFile.FieldType.object "java/util/List")), Jvm.Cond.code ({ cls := "java/util/ArrayList", name := "<init>", desc := "()V" } : Jvm.MethodName) jdk_38_method_2_code (1 : Nat) (Option.none : Option Jvm.ClassFile.FieldType), Jvm.Cond.code ({ cls := "java/util/AbstractList", name := "<init>", desc := "()V" } : Jvm.MethodName) jdk_39_method_1_code (1 : Nat) (Option.none : Option Jvm.ClassFile.FieldType), Jvm.Cond.code ({ cls := "java/util/AbstractCollection", name := "<init>", desc := "()V" } : Jvm.MethodName) jdk_22_method_1_code (1 : Nat) (Option.none : Option Jvm.ClassFile.FieldType), Jvm.Cond.code ({ cls := "java/lang/Object", name := "<init>", desc := "()V" } : Jvm.MethodName) object_method_1_code (1 : Nat) (Option.none : Option Jvm.ClassFile.FieldType), Jvm.Cond.code ({ cls := "java/lang/Integer", name := "valueOf", desc := "(I)Ljava/lang/Integer;" } : Jvm.MethodName) jdk_33_method_22_code (1 : Nat) (Option.some (Jvm.ClassFile.FieldType.object "java/lang/Integer")), Jvm.Cond.code ({ cls := "java/util/ArrayList", name := "add", desc := "(Ljava/lang/Object;)Z" } : Jvm.MethodName) jdk_38_method_25_code (2 : Nat) (Option.some Jvm.ClassFile.FieldType.boolean), Jvm.Cond.code ({ cls := "java/util/ArrayList", name := "add", desc := "(Ljava/lang/Object;[Ljava/lang/Object;I)V" } : Jvm.MethodName) jdk_38_method_24_code (4 : Nat) (Option.none : Option Jvm.ClassFile.FieldType), Jvm.Cond.code ({ cls := "java/util/ArrayList", name := "grow", desc := "()[Ljava/lang/Object;" } : Jvm.MethodName) jdk_38_method_7_code (1 : Nat) (Option.some (Jvm.ClassFile.FieldType.array (Jvm.ClassFile.FieldType.object "java/lang/Object"))), Jvm.Cond.code ({ cls := "java/util/ArrayList", name := "grow", desc := "(I)[Ljava/lang/Object;" } : Jvm.MethodName) jdk_38_method_6_code (4 : Nat) (Option.some (Jvm.ClassFile.FieldType.array (Jvm.ClassFile.FieldType.object "java/lang/Object"))), Jvm.Cond.code ({ cls := "java/lang/Math", name := "max", desc := "(II)I" } : Jvm.MethodName) jdk_29_method_65_code (2 : Nat) (Option.some Jvm.ClassFile.FieldType.int), Jvm.Cond.code ({ cls := "java/util/List", name := "copyOf", desc := "(Ljava/util/Collection;)Ljava/util/List;" } : Jvm.MethodName) jdk_40_method_48_code (1 : Nat) (Option.some (Jvm.ClassFile.FieldType.object "java/util/List")), Jvm.Cond.code ({ cls := "java/util/ImmutableCollections", name := "listCopy", desc := "(Ljava/util/Collection;)Ljava/util/List;" } : Jvm.MethodName) jdk_56_method_3_code (2 : Nat) (Option.some (Jvm.ClassFile.FieldType.object "java/util/List")), Jvm.Cond.code ({ cls := "java/util/ArrayList", name := "isEmpty", desc := "()Z" } : Jvm.MethodName) jdk_38_method_9_code (1 : Nat) (Option.some Jvm.ClassFile.FieldType.boolean), Jvm.Cond.code ({ cls := "java/util/ArrayList", name := "toArray", desc := "()[Ljava/lang/Object;" } : Jvm.MethodName) jdk_38_method_16_code (1 : Nat) (Option.some (Jvm.ClassFile.FieldType.array (Jvm.ClassFile.FieldType.object "java/lang/Object"))), Jvm.Cond.code ({ cls := "java/util/Arrays", name := "copyOf", desc := "([Ljava/lang/Object;I)[Ljava/lang/Object;" } : Jvm.MethodName) jdk_65_method_119_code (2 : Nat) (Option.some (Jvm.ClassFile.FieldType.array (Jvm.ClassFile.FieldType.object "java/lang/Object"))), Jvm.Cond.code ({ cls := "java/util/Arrays", name := "copyOf", desc := "([Ljava/lang/Object;ILjava/lang/Class;)[Ljava/lang/Object;" } : Jvm.MethodName) jdk_65_method_120_code (4 : Nat) (Option.some (Jvm.ClassFile.FieldType.array (Jvm.ClassFile.FieldType.object "java/lang/Object"))), Jvm.Cond.code ({ cls := "java/lang/Math", name := "min", desc := "(II)I" } : Jvm.MethodName) jdk_29_method_69_code (2 : Nat) (Option.some Jvm.ClassFile.FieldType.int), Jvm.Cond.code ({ cls := "java/util/List", name := "of", desc := "([Ljava/lang/Object;)Ljava/util/List;" } : Jvm.MethodName) jdk_40_method_47_code (2 : Nat) (Option.some (Jvm.ClassFile.FieldType.object "java/util/List")), Jvm.Cond.code ({ cls := "java/util/ImmutableCollections", name := "listFromArray", desc := "([Ljava/lang/Object;)Ljava/util/List;" } : Jvm.MethodName) jdk_56_method_4_code (3 : Nat) (Option.some (Jvm.ClassFile.FieldType.object "java/util/List")), Jvm.Cond.code ({ cls := "java/util/Objects", name := "requireNonNull", desc := "(Ljava/lang/Object;)Ljava/lang/Object;" } : Jvm.MethodName) jdk_31_method_10_code (1 : Nat) (Option.some (Jvm.ClassFile.FieldType.object "java/lang/Object")), Jvm.Cond.code ({ cls := "java/util/ImmutableCollections$ListN", name := "<init>", desc := "([Ljava/lang/Object;Z)V" } : Jvm.MethodName) jdk_45_method_1_code (3 : Nat) (Option.none : Option Jvm.ClassFile.FieldType), Jvm.Cond.code ({ cls := "java/util/ImmutableCollections$AbstractImmutableList", name := "<init>", desc := "()V" } : Jvm.MethodName) jdk_46_method_1_code (1 : Nat) (Option.none : Option Jvm.ClassFile.FieldType), Jvm.Cond.code ({ cls := "java/util/ImmutableCollections$AbstractImmutableCollection", name := "<init>", desc := "()V" } : Jvm.MethodName) jdk_47_method_1_code (1 : Nat) (Option.none : Option Jvm.ClassFile.FieldType), Jvm.Cond.code ({ cls := "java/util/ImmutableCollections$ListN", name := "size", desc := "()I" } : Jvm.MethodName) jdk_45_method_3_code (1 : Nat) (Option.some Jvm.ClassFile.FieldType.int), Jvm.Cond.code ({ cls := "java/util/ImmutableCollections$ListN", name := "get", desc := "(I)Ljava/lang/Object;" } : Jvm.MethodName) jdk_45_method_4_code (2 : Nat) (Option.some (Jvm.ClassFile.FieldType.object "java/lang/Object")), Jvm.Cond.code ({ cls := "java/lang/Integer", name := "intValue", desc := "()I" } : Jvm.MethodName) jdk_33_method_27_code (1 : Nat) (Option.some Jvm.ClassFile.FieldType.int), Jvm.Cond.code ({ cls := "java/lang/Integer", name := "<init>", desc := "(I)V" } : Jvm.MethodName) jdk_33_method_23_code (2 : Nat) (Option.none : Option Jvm.ClassFile.FieldType), Jvm.Cond.code ({ cls := "java/lang/Number", name := "<init>", desc := "()V" } : Jvm.MethodName) jdk_18_method_1_code (1 : Nat) (Option.none : Option Jvm.ClassFile.FieldType), Jvm.Cond.code ({ cls := "jdk/internal/util/ArraysSupport", name := "newLength", desc := "(III)I" } : Jvm.MethodName) jdk_48_method_27_code (4 : Nat) (Option.some Jvm.ClassFile.FieldType.int), Jvm.Cond.code ({ cls := "java/util/ImmutableCollections$List12", name := "<init>", desc := "(Ljava/lang/Object;)V" } : Jvm.MethodName) jdk_44_method_1_code (2 : Nat) (Option.none : Option Jvm.ClassFile.FieldType), Jvm.Cond.code ({ cls := "java/util/ImmutableCollections$List12", name := "size", desc := "()I" } : Jvm.MethodName) jdk_44_method_3_code (1 : Nat) (Option.some Jvm.ClassFile.FieldType.int), Jvm.Cond.code ({ cls := "java/util/ImmutableCollections$List12", name := "get", desc := "(I)Ljava/lang/Object;" } : Jvm.MethodName) jdk_44_method_5_code (2 : Nat) (Option.some (Jvm.ClassFile.FieldType.object "java/lang/Object")), Jvm.Cond.code ({ cls := "java/util/ImmutableCollections$List12", name := "<init>", desc := "(Ljava/lang/Object;Ljava/lang/Object;)V" } : Jvm.MethodName) jdk_44_method_2_code (3 : Nat) (Option.none : Option Jvm.ClassFile.FieldType)]
set_option maxRecDepth 65536 in
theorem codes_eq : words1.filter isCode = codes1 := rfl
theorem w_codes : ∀ c ∈ words1.filter isCode, c.before args0 about1 = true := by
  rw [codes_eq]
  intro c hc
  simp only [codes1, List.mem_cons, List.not_mem_nil, or_false] at hc
  rcases hc with rfl | rfl | rfl | rfl | rfl | rfl | rfl | rfl | rfl | rfl | rfl | rfl | rfl | rfl | rfl | rfl | rfl | rfl | rfl | rfl | rfl | rfl | rfl | rfl | rfl | rfl | rfl | rfl | rfl | rfl | rfl | rfl | rfl | rfl | rfl
  · exact w_c0
  · exact w_c1
  · exact w_c2
  · exact w_c3
  · exact w_c4
  · exact w_c5
  · exact w_c6
  · exact w_c7
  · exact w_c8
  · exact w_c9
  · exact w_c10
  · exact w_c11
  · exact w_c12
  · exact w_c13
  · exact w_c14
  · exact w_c15
  · exact w_c16
  · exact w_c17
  · exact w_c18
  · exact w_c19
  · exact w_c20
  · exact w_c21
  · exact w_c22
  · exact w_c23
  · exact w_c24
  · exact w_c25
  · exact w_c26
  · exact w_c27
  · exact w_c28
  · exact w_c29
  · exact w_c30
  · exact w_c31
  · exact w_c32
  · exact w_c33
  · exact w_c34
set_option maxRecDepth 65536 in
theorem w_t1 : (words1.take 24).all (fun c => isCode c || c.before args0 about1) = true := by decide +kernel
set_option maxRecDepth 65536 in
theorem w_t2 : ((words1.drop 24).take 24).all (fun c => isCode c || c.before args0 about1) = true := by decide +kernel
set_option maxRecDepth 65536 in
theorem w_t3 : (((words1.drop 24).drop 24).take 24).all (fun c => isCode c || c.before args0 about1) = true := by decide +kernel
set_option maxRecDepth 65536 in
theorem w_t4 : ((((words1.drop 24).drop 24).drop 24).take 24).all (fun c => isCode c || c.before args0 about1) = true := by decide +kernel
set_option maxRecDepth 65536 in
theorem w_t5 : (((((words1.drop 24).drop 24).drop 24).drop 24).take 24).all (fun c => isCode c || c.before args0 about1) = true := by decide +kernel
set_option maxRecDepth 65536 in
theorem w_t6 : ((((((words1.drop 24).drop 24).drop 24).drop 24).drop 24).take 24).all (fun c => isCode c || c.before args0 about1) = true := by decide +kernel
set_option maxRecDepth 65536 in
theorem w_t7 : (((((((words1.drop 24).drop 24).drop 24).drop 24).drop 24).drop 24).take 24).all (fun c => isCode c || c.before args0 about1) = true := by decide +kernel
set_option maxRecDepth 65536 in
theorem w_t8 : ((((((((words1.drop 24).drop 24).drop 24).drop 24).drop 24).drop 24).drop 24).take 24).all (fun c => isCode c || c.before args0 about1) = true := by decide +kernel
set_option maxRecDepth 65536 in
theorem w_t9 : (((((((((words1.drop 24).drop 24).drop 24).drop 24).drop 24).drop 24).drop 24).drop 24).take 24).all (fun c => isCode c || c.before args0 about1) = true := by decide +kernel
set_option maxRecDepth 65536 in
theorem w_t10 : (((((((((words1.drop 24).drop 24).drop 24).drop 24).drop 24).drop 24).drop 24).drop 24).drop 24).all (fun c => isCode c || c.before args0 about1) = true := by decide +kernel
theorem w_tables : (allAtoms (Jvm.Cond.code x code maxLocals ret :: tables_1)).before args0 about1 = true := by
  rw [allAtoms_all]
  show words1.all (fun c => c.before args0 about1) = true
  refine all_split ?_ w_codes
  rw [← List.take_append_drop 24 words1, List.all_append, w_t1, ← List.take_append_drop 24 (words1.drop 24), List.all_append, w_t2, ← List.take_append_drop 24 ((words1.drop 24).drop 24), List.all_append, w_t3, ← List.take_append_drop 24 (((words1.drop 24).drop 24).drop 24), List.all_append, w_t4, ← List.take_append_drop 24 ((((words1.drop 24).drop 24).drop 24).drop 24), List.all_append, w_t5, ← List.take_append_drop 24 (((((words1.drop 24).drop 24).drop 24).drop 24).drop 24), List.all_append, w_t6, ← List.take_append_drop 24 ((((((words1.drop 24).drop 24).drop 24).drop 24).drop 24).drop 24), List.all_append, w_t7, ← List.take_append_drop 24 (((((((words1.drop 24).drop 24).drop 24).drop 24).drop 24).drop 24).drop 24), List.all_append, w_t8, ← List.take_append_drop 24 ((((((((words1.drop 24).drop 24).drop 24).drop 24).drop 24).drop 24).drop 24).drop 24), List.all_append, w_t9, w_t10]
  rfl
set_option maxRecDepth 65536 in
theorem w_rest : rest_1_c.before args0 about1 = true := by decide +kernel
set_option maxRecDepth 65536 in
theorem w_case : (Jvm.Cond.and given_1 narrow_1).before args0 about1 = true := by decide +kernel
theorem w_applies : (headSpec (Jvm.Cond.code x code maxLocals ret :: tables_1) room_1).applies x e0.platform about1 = true :=
  (Spec.applies_iff w_frames).mpr ⟨w_running, w_runnable, w_alone, w_named, w_hears, w_ripe, w_room, w_tables⟩
set_option maxRecDepth 65536 in
theorem atStart : AtStart classFile x code maxLocals ret World_1 tables_1 room_1 Calls_1 rest_1 Pre_1 launch0 p0 e0 about1 theMethod args0 below0 :=
  ⟨lists_1, trivial, launch0.admits_env _ _ _, launch0.least_env, fairChoices_fair.cas, fairChoices_fair.clock, w_frames, w_args, w_heap, w_applies, ⟨⟨36, k36, 3, by decide +kernel, rfl, rfl, _, rfl, rfl⟩, trivial⟩, w_rest, w_case⟩
end start1
theorem witness_1 : WitnessClaimed_1 := ⟨start1.p0, start1.e0, start1.about1, start1.theMethod, start1.args0, start1.below0, start1.atStart⟩
end Jvm.Pilot.@@N@@
