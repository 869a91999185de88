import JvmDerived
import JvmDerived.Pilot.@@N@@Statement
import JvmDerived.Pilot.@@N@@Code
set_option linter.unusedVariables false
set_option linter.unusedSimpArgs false
namespace Jvm.Pilot.@@N@@
open Jvm Jvm.ClassFile Sem Op Lib Jvm.Free Jvm.Stand Jvm.LawKit Jvm.RoadKit Bundle Jvm.Pilot.@@N@@.Jvm.D
section OwnKit
variable {p : Program} {l : Launch} {e : Env} {R : Room} {s : State} {m : MethodId} {args : Array Value} {below : List Frame} {meth : Method} {c : Code} {T : State} {locs : List Loc} {cells slots kc ks : Nat} {Q : Option Value → Heap → List Loc → Prop} {P : Outcome → State → Prop} {pc q : Nat} {Ls L' : Array Slot} {st : List Value}
def own_Go (p : Program) (e : Env) (below : List Frame) (P : Outcome → State → Prop) (U : State) : Prop :=
  ∃ s₂ o, Steps p.tables e below U s₂ ∧ s₂.status = .running ∧ Ended s₂ below o ∧ P o s₂
def own_E (s : State) (kc ks : Nat) (Q : Option Value → Heap → List Loc → Prop) (o : Outcome) (t : State) : Prop := ∃ v L, o = .returned v ∧ Q v t.heap L ∧ FrameEnd s o t L kc ks
theorem own_via {U V : State} (h : ∀ t, Steps p.tables e below V t → Steps p.tables e below U t) (K : own_Go p e below P V) : own_Go p e below P U := by
  obtain ⟨a, b, h1, r⟩ := K; exact ⟨a, b, h _ h1, r⟩
theorem own_mono {P' : Outcome → State → Prop} {U : State} (h : ∀ o t, P' o t → P o t) (K : own_Go p e below P' U) : own_Go p e below P U := by
  obtain ⟨a, b, h1, h2, h3, h4⟩ := K; exact ⟨a, b, h1, h2, h3, h _ _ h4⟩
def own_P (w : Value) (h : Heap) (v : Option Value) (h' : Heap) (L : List Loc) : Prop := v = some w ∧ h' = h ∧ L = []
theorem own_iadd (X : Stand p l e R s m args below meth c T locs cells slots) (hx : p.tables.exec = Jvm.exec) {x y : Int32} (hd : decode c.code pc = .ok (.iadd, 1)) (hq : pc + 1 = q)  (K : own_Go p e below P (T.setTop (mkF m q Ls (.int (x + y) :: st)))) : own_Go p e below P (T.setTop (mkF m pc Ls (.int y :: .int x :: st))) := by
  subst hq; exact own_via (fun t => XS.iadd X.here hx rfl hd rfl) K
theorem own_isub (X : Stand p l e R s m args below meth c T locs cells slots) (hx : p.tables.exec = Jvm.exec) {x y : Int32} (hd : decode c.code pc = .ok (.isub, 1)) (hq : pc + 1 = q)  (K : own_Go p e below P (T.setTop (mkF m q Ls (.int (x - y) :: st)))) : own_Go p e below P (T.setTop (mkF m pc Ls (.int y :: .int x :: st))) := by
  subst hq; exact own_via (fun t => XS.isub X.here hx rfl hd rfl) K
theorem own_imul (X : Stand p l e R s m args below meth c T locs cells slots) (hx : p.tables.exec = Jvm.exec) {x y : Int32} (hd : decode c.code pc = .ok (.imul, 1)) (hq : pc + 1 = q)  (K : own_Go p e below P (T.setTop (mkF m q Ls (.int (x * y) :: st)))) : own_Go p e below P (T.setTop (mkF m pc Ls (.int y :: .int x :: st))) := by
  subst hq; exact own_via (fun t => XS.imul X.here hx rfl hd rfl) K
theorem own_iand (X : Stand p l e R s m args below meth c T locs cells slots) (hx : p.tables.exec = Jvm.exec) {x y : Int32} (hd : decode c.code pc = .ok (.iand, 1)) (hq : pc + 1 = q)  (K : own_Go p e below P (T.setTop (mkF m q Ls (.int (x &&& y) :: st)))) : own_Go p e below P (T.setTop (mkF m pc Ls (.int y :: .int x :: st))) := by
  subst hq; exact own_via (fun t => XS.iand X.here hx rfl hd rfl) K
theorem own_ixor (X : Stand p l e R s m args below meth c T locs cells slots) (hx : p.tables.exec = Jvm.exec) {x y : Int32} (hd : decode c.code pc = .ok (.ixor, 1)) (hq : pc + 1 = q)  (K : own_Go p e below P (T.setTop (mkF m q Ls (.int (x ^^^ y) :: st)))) : own_Go p e below P (T.setTop (mkF m pc Ls (.int y :: .int x :: st))) := by
  subst hq; exact own_via (fun t => XT.ixor X.here hx rfl hd rfl) K
theorem own_ior (X : Stand p l e R s m args below meth c T locs cells slots) (hx : p.tables.exec = Jvm.exec) {x y : Int32} (hd : decode c.code pc = .ok (.ior, 1)) (hq : pc + 1 = q)  (K : own_Go p e below P (T.setTop (mkF m q Ls (.int (x ||| y) :: st)))) : own_Go p e below P (T.setTop (mkF m pc Ls (.int y :: .int x :: st))) := by
  subst hq; exact own_via (fun t => XT.ior X.here hx rfl hd rfl) K
theorem own_ishl (X : Stand p l e R s m args below meth c T locs cells slots) (hx : p.tables.exec = Jvm.exec) {x y : Int32} (hd : decode c.code pc = .ok (.ishl, 1)) (hq : pc + 1 = q)  (K : own_Go p e below P (T.setTop (mkF m q Ls (.int (x <<< (y &&& 31)) :: st)))) : own_Go p e below P (T.setTop (mkF m pc Ls (.int y :: .int x :: st))) := by
  subst hq; exact own_via (fun t => XT.ishl X.here hx rfl hd rfl) K
theorem own_ishr (X : Stand p l e R s m args below meth c T locs cells slots) (hx : p.tables.exec = Jvm.exec) {x y : Int32} (hd : decode c.code pc = .ok (.ishr, 1)) (hq : pc + 1 = q)  (K : own_Go p e below P (T.setTop (mkF m q Ls (.int (x >>> (y &&& 31)) :: st)))) : own_Go p e below P (T.setTop (mkF m pc Ls (.int y :: .int x :: st))) := by
  subst hq; exact own_via (fun t => XT.ishr X.here hx rfl hd rfl) K
theorem own_iushr (X : Stand p l e R s m args below meth c T locs cells slots) (hx : p.tables.exec = Jvm.exec) {x y : Int32} (hd : decode c.code pc = .ok (.iushr, 1)) (hq : pc + 1 = q)  (K : own_Go p e below P (T.setTop (mkF m q Ls (.int (XT.ushr x y) :: st)))) : own_Go p e below P (T.setTop (mkF m pc Ls (.int y :: .int x :: st))) := by
  subst hq; exact own_via (fun t => XT.iushr X.here hx rfl hd rfl) K
theorem own_idiv (X : Stand p l e R s m args below meth c T locs cells slots) (hx : p.tables.exec = Jvm.exec) {x y : Int32} (hd : decode c.code pc = .ok (.idiv, 1)) (hq : pc + 1 = q) (hy : y ≠ 0) (K : own_Go p e below P (T.setTop (mkF m q Ls (.int (x / y) :: st)))) : own_Go p e below P (T.setTop (mkF m pc Ls (.int y :: .int x :: st))) := by
  subst hq; exact own_via (fun t => XS.idiv X.here hx rfl hd rfl hy) K
theorem own_irem (X : Stand p l e R s m args below meth c T locs cells slots) (hx : p.tables.exec = Jvm.exec) {x y : Int32} (hd : decode c.code pc = .ok (.irem, 1)) (hq : pc + 1 = q) (hy : y ≠ 0) (K : own_Go p e below P (T.setTop (mkF m q Ls (.int (x % y) :: st)))) : own_Go p e below P (T.setTop (mkF m pc Ls (.int y :: .int x :: st))) := by
  subst hq; exact own_via (fun t => iremM X hx rfl hd rfl hy) K
theorem own_ineg (X : Stand p l e R s m args below meth c T locs cells slots) (hx : p.tables.exec = Jvm.exec) {x : Int32} (hd : decode c.code pc = .ok (.ineg, 1)) (hq : pc + 1 = q)  (K : own_Go p e below P (T.setTop (mkF m q Ls (.int (-x) :: st)))) : own_Go p e below P (T.setTop (mkF m pc Ls (.int x :: st))) := by
  subst hq; exact own_via (fun t => XS.ineg X.here hx rfl hd rfl) K
theorem own_ladd (X : Stand p l e R s m args below meth c T locs cells slots) (hx : p.tables.exec = Jvm.exec) {x y : Int64} (hd : decode c.code pc = .ok (.ladd, 1)) (hq : pc + 1 = q)  (K : own_Go p e below P (T.setTop (mkF m q Ls (.long (x + y) :: st)))) : own_Go p e below P (T.setTop (mkF m pc Ls (.long y :: .long x :: st))) := by
  subst hq; exact own_via (fun t => XT.ladd X.here hx rfl hd rfl) K
theorem own_lsub (X : Stand p l e R s m args below meth c T locs cells slots) (hx : p.tables.exec = Jvm.exec) {x y : Int64} (hd : decode c.code pc = .ok (.lsub, 1)) (hq : pc + 1 = q)  (K : own_Go p e below P (T.setTop (mkF m q Ls (.long (x - y) :: st)))) : own_Go p e below P (T.setTop (mkF m pc Ls (.long y :: .long x :: st))) := by
  subst hq; exact own_via (fun t => XT.lsub X.here hx rfl hd rfl) K
theorem own_lmul (X : Stand p l e R s m args below meth c T locs cells slots) (hx : p.tables.exec = Jvm.exec) {x y : Int64} (hd : decode c.code pc = .ok (.lmul, 1)) (hq : pc + 1 = q)  (K : own_Go p e below P (T.setTop (mkF m q Ls (.long (x * y) :: st)))) : own_Go p e below P (T.setTop (mkF m pc Ls (.long y :: .long x :: st))) := by
  subst hq; exact own_via (fun t => XT.lmul X.here hx rfl hd rfl) K
theorem own_land (X : Stand p l e R s m args below meth c T locs cells slots) (hx : p.tables.exec = Jvm.exec) {x y : Int64} (hd : decode c.code pc = .ok (.land, 1)) (hq : pc + 1 = q)  (K : own_Go p e below P (T.setTop (mkF m q Ls (.long (x &&& y) :: st)))) : own_Go p e below P (T.setTop (mkF m pc Ls (.long y :: .long x :: st))) := by
  subst hq; exact own_via (fun t => XT.land X.here hx rfl hd rfl) K
theorem own_lor (X : Stand p l e R s m args below meth c T locs cells slots) (hx : p.tables.exec = Jvm.exec) {x y : Int64} (hd : decode c.code pc = .ok (.lor, 1)) (hq : pc + 1 = q)  (K : own_Go p e below P (T.setTop (mkF m q Ls (.long (x ||| y) :: st)))) : own_Go p e below P (T.setTop (mkF m pc Ls (.long y :: .long x :: st))) := by
  subst hq; exact own_via (fun t => XT.lor X.here hx rfl hd rfl) K
theorem own_lxor (X : Stand p l e R s m args below meth c T locs cells slots) (hx : p.tables.exec = Jvm.exec) {x y : Int64} (hd : decode c.code pc = .ok (.lxor, 1)) (hq : pc + 1 = q)  (K : own_Go p e below P (T.setTop (mkF m q Ls (.long (x ^^^ y) :: st)))) : own_Go p e below P (T.setTop (mkF m pc Ls (.long y :: .long x :: st))) := by
  subst hq; exact own_via (fun t => XT.lxor X.here hx rfl hd rfl) K
theorem own_ldiv (X : Stand p l e R s m args below meth c T locs cells slots) (hx : p.tables.exec = Jvm.exec) {x y : Int64} (hd : decode c.code pc = .ok (.ldiv, 1)) (hq : pc + 1 = q) (hy : y ≠ 0) (K : own_Go p e below P (T.setTop (mkF m q Ls (.long (x / y) :: st)))) : own_Go p e below P (T.setTop (mkF m pc Ls (.long y :: .long x :: st))) := by
  subst hq; exact own_via (fun t => XT.ldiv X.here hx rfl hd rfl hy) K
theorem own_lshl (X : Stand p l e R s m args below meth c T locs cells slots) (hx : p.tables.exec = Jvm.exec) {x : Int64} {y : Int32} (hd : decode c.code pc = .ok (.lshl, 1)) (hq : pc + 1 = q)  (K : own_Go p e below P (T.setTop (mkF m q Ls (.long (x <<< (y.toInt64 &&& 63)) :: st)))) : own_Go p e below P (T.setTop (mkF m pc Ls (.int y :: .long x :: st))) := by
  subst hq; exact own_via (fun t => XT.lshl X.here hx rfl hd rfl) K
theorem own_lshr (X : Stand p l e R s m args below meth c T locs cells slots) (hx : p.tables.exec = Jvm.exec) {x : Int64} {y : Int32} (hd : decode c.code pc = .ok (.lshr, 1)) (hq : pc + 1 = q)  (K : own_Go p e below P (T.setTop (mkF m q Ls (.long (x >>> (y.toInt64 &&& 63)) :: st)))) : own_Go p e below P (T.setTop (mkF m pc Ls (.int y :: .long x :: st))) := by
  subst hq; exact own_via (fun t => XT.lshr X.here hx rfl hd rfl) K
theorem own_lushr (X : Stand p l e R s m args below meth c T locs cells slots) (hx : p.tables.exec = Jvm.exec) {x : Int64} {y : Int32} (hd : decode c.code pc = .ok (.lushr, 1)) (hq : pc + 1 = q)  (K : own_Go p e below P (T.setTop (mkF m q Ls (.long (XT.ushrL x y) :: st)))) : own_Go p e below P (T.setTop (mkF m pc Ls (.int y :: .long x :: st))) := by
  subst hq; exact own_via (fun t => XT.lushr X.here hx rfl hd rfl) K
theorem own_i2l (X : Stand p l e R s m args below meth c T locs cells slots) (hx : p.tables.exec = Jvm.exec) {x : Int32} (hd : decode c.code pc = .ok (.i2l, 1)) (hq : pc + 1 = q)  (K : own_Go p e below P (T.setTop (mkF m q Ls (.long x.toInt64 :: st)))) : own_Go p e below P (T.setTop (mkF m pc Ls (.int x :: st))) := by
  subst hq; exact own_via (fun t => XT.i2l X.here hx rfl hd rfl) K
theorem own_l2i (X : Stand p l e R s m args below meth c T locs cells slots) (hx : p.tables.exec = Jvm.exec) {x : Int64} (hd : decode c.code pc = .ok (.l2i, 1)) (hq : pc + 1 = q)  (K : own_Go p e below P (T.setTop (mkF m q Ls (.int x.toInt32 :: st)))) : own_Go p e below P (T.setTop (mkF m pc Ls (.long x :: st))) := by
  subst hq; exact own_via (fun t => XT.l2i X.here hx rfl hd rfl) K
theorem own_i2c (X : Stand p l e R s m args below meth c T locs cells slots) (hx : p.tables.exec = Jvm.exec) {x : Int32} (hd : decode c.code pc = .ok (.i2c, 1)) (hq : pc + 1 = q)  (K : own_Go p e below P (T.setTop (mkF m q Ls (.int x.toUInt32.toUInt16.toUInt32.toInt32 :: st)))) : own_Go p e below P (T.setTop (mkF m pc Ls (.int x :: st))) := by
  subst hq; exact own_via (fun t => XT.i2c X.here hx rfl hd rfl) K
theorem own_i2b (X : Stand p l e R s m args below meth c T locs cells slots) (hx : p.tables.exec = Jvm.exec) {x : Int32} (hd : decode c.code pc = .ok (.i2b, 1)) (hq : pc + 1 = q)  (K : own_Go p e below P (T.setTop (mkF m q Ls (.int x.toInt8.toInt32 :: st)))) : own_Go p e below P (T.setTop (mkF m pc Ls (.int x :: st))) := by
  subst hq; exact own_via (fun t => XT.i2b X.here hx rfl hd rfl) K
theorem own_lcmp (X : Stand p l e R s m args below meth c T locs cells slots) (hx : p.tables.exec = Jvm.exec) {x y : Int64} (hd : decode c.code pc = .ok (.lcmp, 1)) (hq : pc + 1 = q)  (K : own_Go p e below P (T.setTop (mkF m q Ls (.int (XT.cmpL x y) :: st)))) : own_Go p e below P (T.setTop (mkF m pc Ls (.long y :: .long x :: st))) := by
  subst hq; exact own_via (fun t => XT.lcmp X.here hx rfl hd rfl) K
theorem own_iconst (X : Stand p l e R s m args below meth c T locs cells slots) (hx : p.tables.exec = Jvm.exec) {i : Int} (v : Int32) (hd : decode c.code pc = .ok (.iconst i, 1)) (hq : pc + 1 = q) (hv : Int32.ofInt i = v) (K : own_Go p e below P (T.setTop (mkF m q Ls (.int v :: st)))) : own_Go p e below P (T.setTop (mkF m pc Ls st)) := by
  subst hq; exact own_via (fun t => XT.iconstV (v := v) X.here hx rfl hd hv) K
theorem own_bipush (X : Stand p l e R s m args below meth c T locs cells slots) (hx : p.tables.exec = Jvm.exec) {i : Int} (v : Int32) (hd : decode c.code pc = .ok (.bipush i, 2)) (hq : pc + 2 = q) (hv : (Int8.ofInt i).toInt32 = v) (K : own_Go p e below P (T.setTop (mkF m q Ls (.int v :: st)))) : own_Go p e below P (T.setTop (mkF m pc Ls st)) := by
  subst hq; exact own_via (fun t => XT.bipushV (v := v) X.here hx rfl hd hv) K
theorem own_sipush (X : Stand p l e R s m args below meth c T locs cells slots) (hx : p.tables.exec = Jvm.exec) {i : Int} (v : Int32) (hd : decode c.code pc = .ok (.sipush i, 3)) (hq : pc + 3 = q) (hv : (Int16.ofInt i).toInt32 = v) (K : own_Go p e below P (T.setTop (mkF m q Ls (.int v :: st)))) : own_Go p e below P (T.setTop (mkF m pc Ls st)) := by
  subst hq; exact own_via (fun t => XT.sipushV (v := v) X.here hx rfl hd hv) K
theorem own_lconst (X : Stand p l e R s m args below meth c T locs cells slots) (hx : p.tables.exec = Jvm.exec) {i : Fin 2} (v : Int64) (hd : decode c.code pc = .ok (.lconst i, 1)) (hq : pc + 1 = q) (hv : Int64.ofNat i = v) (K : own_Go p e below P (T.setTop (mkF m q Ls (.long v :: st)))) : own_Go p e below P (T.setTop (mkF m pc Ls st)) := by
  subst hq; exact own_via (fun t => XT.lconstV (v := v) X.here hx rfl hd hv) K
theorem own_aconstNull (X : Stand p l e R s m args below meth c T locs cells slots) (hx : p.tables.exec = Jvm.exec)  (hd : decode c.code pc = .ok (.aconst_null, 1)) (hq : pc + 1 = q)  (K : own_Go p e below P (T.setTop (mkF m q Ls (.null :: st)))) : own_Go p e below P (T.setTop (mkF m pc Ls st)) := by
  subst hq; exact own_via (fun t => XS.aconstNull X.here hx rfl hd ) K
theorem own_iloadN (X : Stand p l e R s m args below meth c T locs cells slots) (hx : p.tables.exec = Jvm.exec) {k : Fin 4} {v : Int32} (hd : decode c.code pc = .ok (.iload_n k, 1)) (hq : pc + 1 = q) (hl : Ls[k.val]? = some (.val (.int v))) (K : own_Go p e below P (T.setTop (mkF m q Ls (.int v :: st)))) : own_Go p e below P (T.setTop (mkF m pc Ls st)) := by
  subst hq; exact own_via (fun t => XS.iloadN X.here hx rfl hd hl) K
theorem own_iload (X : Stand p l e R s m args below meth c T locs cells slots) (hx : p.tables.exec = Jvm.exec) {k : Nat} {v : Int32} (hd : decode c.code pc = .ok (.iload k, 2)) (hq : pc + 2 = q) (hl : Ls[k]? = some (.val (.int v))) (K : own_Go p e below P (T.setTop (mkF m q Ls (.int v :: st)))) : own_Go p e below P (T.setTop (mkF m pc Ls st)) := by
  subst hq; exact own_via (fun t => XS.iload X.here hx rfl hd hl) K
theorem own_lloadN (X : Stand p l e R s m args below meth c T locs cells slots) (hx : p.tables.exec = Jvm.exec) {k : Fin 4} {v : Int64} (hd : decode c.code pc = .ok (.lload_n k, 1)) (hq : pc + 1 = q) (hl : Ls[k.val]? = some (.val (.long v))) (K : own_Go p e below P (T.setTop (mkF m q Ls (.long v :: st)))) : own_Go p e below P (T.setTop (mkF m pc Ls st)) := by
  subst hq; exact own_via (fun t => XT.lloadN X.here hx rfl hd hl) K
theorem own_lload (X : Stand p l e R s m args below meth c T locs cells slots) (hx : p.tables.exec = Jvm.exec) {k : Nat} {v : Int64} (hd : decode c.code pc = .ok (.lload k, 2)) (hq : pc + 2 = q) (hl : Ls[k]? = some (.val (.long v))) (K : own_Go p e below P (T.setTop (mkF m q Ls (.long v :: st)))) : own_Go p e below P (T.setTop (mkF m pc Ls st)) := by
  subst hq; exact own_via (fun t => XT.lload X.here hx rfl hd hl) K
theorem own_aloadN (X : Stand p l e R s m args below meth c T locs cells slots) (hx : p.tables.exec = Jvm.exec) {k : Fin 4} {v : Value} (hd : decode c.code pc = .ok (.aload_n k, 1)) (hq : pc + 1 = q) (hl : Ls[k.val]? = some (.val v)) (hv : v.isRef = true) (K : own_Go p e below P (T.setTop (mkF m q Ls (v :: st)))) : own_Go p e below P (T.setTop (mkF m pc Ls st)) := by
  subst hq; exact own_via (fun t => XS.aloadN X.here hx rfl hd hl hv) K
theorem own_aload (X : Stand p l e R s m args below meth c T locs cells slots) (hx : p.tables.exec = Jvm.exec) {k : Nat} {v : Value} (hd : decode c.code pc = .ok (.aload k, 2)) (hq : pc + 2 = q) (hl : Ls[k]? = some (.val v)) (hv : v.isRef = true) (K : own_Go p e below P (T.setTop (mkF m q Ls (v :: st)))) : own_Go p e below P (T.setTop (mkF m pc Ls st)) := by
  subst hq; exact own_via (fun t => XS.aload X.here hx rfl hd hl hv) K
theorem own_istoreN (X : Stand p l e R s m args below meth c T locs cells slots) (hx : p.tables.exec = Jvm.exec) {k : Fin 4} {v : Int32} (hd : decode c.code pc = .ok (.istore_n k, 1)) (hq : pc + 1 = q) (hl : storeLocals Ls k.val (.int v) = some L') (K : own_Go p e below P (T.setTop (mkF m q L' st))) : own_Go p e below P (T.setTop (mkF m pc Ls (.int v :: st))) := by
  subst hq; exact own_via (fun t => XS.istoreN X.here hx rfl hd rfl hl) K
theorem own_istore (X : Stand p l e R s m args below meth c T locs cells slots) (hx : p.tables.exec = Jvm.exec) {k : Nat} {v : Int32} (hd : decode c.code pc = .ok (.istore k, 2)) (hq : pc + 2 = q) (hl : storeLocals Ls k (.int v) = some L') (K : own_Go p e below P (T.setTop (mkF m q L' st))) : own_Go p e below P (T.setTop (mkF m pc Ls (.int v :: st))) := by
  subst hq; exact own_via (fun t => XS.istore X.here hx rfl hd rfl hl) K
theorem own_lstoreN (X : Stand p l e R s m args below meth c T locs cells slots) (hx : p.tables.exec = Jvm.exec) {k : Fin 4} {v : Int64} (hd : decode c.code pc = .ok (.lstore_n k, 1)) (hq : pc + 1 = q) (hl : storeLocals Ls k.val (.long v) = some L') (K : own_Go p e below P (T.setTop (mkF m q L' st))) : own_Go p e below P (T.setTop (mkF m pc Ls (.long v :: st))) := by
  subst hq; exact own_via (fun t => XT.lstoreN X.here hx rfl hd rfl hl) K
theorem own_lstore (X : Stand p l e R s m args below meth c T locs cells slots) (hx : p.tables.exec = Jvm.exec) {k : Nat} {v : Int64} (hd : decode c.code pc = .ok (.lstore k, 2)) (hq : pc + 2 = q) (hl : storeLocals Ls k (.long v) = some L') (K : own_Go p e below P (T.setTop (mkF m q L' st))) : own_Go p e below P (T.setTop (mkF m pc Ls (.long v :: st))) := by
  subst hq; exact own_via (fun t => XT.lstore X.here hx rfl hd rfl hl) K
theorem own_astoreN (X : Stand p l e R s m args below meth c T locs cells slots) (hx : p.tables.exec = Jvm.exec) {k : Fin 4} {v : Value} (hd : decode c.code pc = .ok (.astore_n k, 1)) (hq : pc + 1 = q) (hv : v.isRef = true) (hl : storeLocals Ls k.val v = some L') (K : own_Go p e below P (T.setTop (mkF m q L' st))) : own_Go p e below P (T.setTop (mkF m pc Ls (v :: st))) := by
  subst hq; exact own_via (fun t => XS.astoreN X.here hx rfl hd rfl hv hl) K
theorem own_astore (X : Stand p l e R s m args below meth c T locs cells slots) (hx : p.tables.exec = Jvm.exec) {k : Nat} {v : Value} (hd : decode c.code pc = .ok (.astore k, 2)) (hq : pc + 2 = q) (hv : v.isRef = true) (hl : storeLocals Ls k v = some L') (K : own_Go p e below P (T.setTop (mkF m q L' st))) : own_Go p e below P (T.setTop (mkF m pc Ls (v :: st))) := by
  subst hq; exact own_via (fun t => XS.astore X.here hx rfl hd rfl hv hl) K
theorem own_iinc (X : Stand p l e R s m args below meth c T locs cells slots) (hx : p.tables.exec = Jvm.exec) {k : Nat} {i : Int} {x : Int32} (v : Int32) (hd : decode c.code pc = .ok (.iinc k i, 3)) (hq : pc + 3 = q) (hv : Int32.ofInt i = v) (hl : Ls[k]? = some (.val (.int x))) (hl' : storeLocals Ls k (.int (x + v)) = some L') (K : own_Go p e below P (T.setTop (mkF m q L' st))) : own_Go p e below P (T.setTop (mkF m pc Ls st)) := by
  subst hq; exact own_via (fun t => XT.iincV (v := v) X.here hx rfl hd hv hl hl') K
theorem own_dup (X : Stand p l e R s m args below meth c T locs cells slots) (hx : p.tables.exec = Jvm.exec) {v : Value} (hd : decode c.code pc = .ok (.dup, 1)) (hq : pc + 1 = q) (hc : v.category = 1) (K : own_Go p e below P (T.setTop (mkF m q Ls (v :: v :: st)))) : own_Go p e below P (T.setTop (mkF m pc Ls (v :: st))) := by
  subst hq; exact own_via (fun t => XS.dup X.here hx rfl hd rfl hc) K
theorem own_pop (X : Stand p l e R s m args below meth c T locs cells slots) (hx : p.tables.exec = Jvm.exec) {v : Value} (hd : decode c.code pc = .ok (.pop, 1)) (hq : pc + 1 = q) (hc : v.category = 1) (K : own_Go p e below P (T.setTop (mkF m q Ls st))) : own_Go p e below P (T.setTop (mkF m pc Ls (v :: st))) := by
  subst hq; exact own_via (fun t => XT.pop X.here hx rfl hd rfl hc) K
theorem own_dupX1 (X : Stand p l e R s m args below meth c T locs cells slots) (hx : p.tables.exec = Jvm.exec) {v w : Value} (hd : decode c.code pc = .ok (.dup_x1, 1)) (hq : pc + 1 = q) (hc : v.category = 1) (hc' : w.category = 1) (K : own_Go p e below P (T.setTop (mkF m q Ls (v :: w :: v :: st)))) : own_Go p e below P (T.setTop (mkF m pc Ls (v :: w :: st))) := by
  subst hq; exact own_via (fun t => XT.dupX1 X.here hx rfl hd rfl hc hc') K
theorem own_dup2 (X : Stand p l e R s m args below meth c T locs cells slots) (hx : p.tables.exec = Jvm.exec) {v w : Value} (hd : decode c.code pc = .ok (.dup2, 1)) (hq : pc + 1 = q) (hc : v.category = 1) (hc' : w.category = 1) (K : own_Go p e below P (T.setTop (mkF m q Ls (v :: w :: v :: w :: st)))) : own_Go p e below P (T.setTop (mkF m pc Ls (v :: w :: st))) := by
  subst hq; exact own_via (fun t => XT.dup2 X.here hx rfl hd rfl hc hc') K
theorem own_goto (X : Stand p l e R s m args below meth c T locs cells slots) (hx : p.tables.exec = Jvm.exec) {o : Int} (hd : decode c.code pc = .ok (.goto o, 3)) (ho : 0 ≤ (pc : Int) + o) (hp : ((pc : Int) + o).toNat = q) (K : own_Go p e below P (T.setTop (mkF m q Ls st))) : own_Go p e below P (T.setTop (mkF m pc Ls st)) := by
  exact own_via (fun t => XS.goto X.here hx rfl (pc0 := pc) (pc' := q) rfl hd ho hp) K
theorem own_ldc (X : Stand p l e R s m args below meth c T locs cells slots) (hx : p.tables.exec = Jvm.exec) {Z : State} {a0 : Array Value} (hZ : Z.Warmed39 s.vm) {own : String} {i : Nat} {v : Int32} (hown : s.vm.findClass own = some m.cls) (w : (Cond.constant own i v).before a0 Z = true) (hd : decode c.code pc = .ok (.ldc i, 2)) (hq : pc + 2 = q) (K : own_Go p e below P (T.setTop (mkF m q Ls (.int v :: st)))) : own_Go p e below P (T.setTop (mkF m pc Ls st)) := by
  subst hq; exact own_via (fun t => X.ldcI hx hown (mv hZ w) rfl hd) K
theorem own_ldcW (X : Stand p l e R s m args below meth c T locs cells slots) (hx : p.tables.exec = Jvm.exec) {Z : State} {a0 : Array Value} (hZ : Z.Warmed39 s.vm) {own : String} {i : Nat} {v : Int32} (hown : s.vm.findClass own = some m.cls) (w : (Cond.constant own i v).before a0 Z = true) (hd : decode c.code pc = .ok (.ldc_w i, 3)) (hq : pc + 3 = q) (K : own_Go p e below P (T.setTop (mkF m q Ls (.int v :: st)))) : own_Go p e below P (T.setTop (mkF m pc Ls st)) := by
  subst hq; exact own_via (fun t => X.ldcWI hx hown (mv hZ w) rfl hd) K
theorem own_ldc2 (X : Stand p l e R s m args below meth c T locs cells slots) (hx : p.tables.exec = Jvm.exec) {Z : State} {a0 : Array Value} (hZ : Z.Warmed39 s.vm) {own : String} {i : Nat} {v : Int64} (hown : s.vm.findClass own = some m.cls) (w : (Cond.constantLong own i v).before a0 Z = true) (hd : decode c.code pc = .ok (.ldc2_w i, 3)) (hq : pc + 3 = q) (K : own_Go p e below P (T.setTop (mkF m q Ls (.long v :: st)))) : own_Go p e below P (T.setTop (mkF m pc Ls st)) := by
  subst hq; exact own_via (fun t => X.ldc2J hx hown (mv hZ w) rfl hd) K
def own_pos : ClassFile.Cond → Bool | .eq => true | .lt => true | .gt => true | _ => false
def own_base {α : Type} [LT α] : ClassFile.Cond → α → α → Prop | .eq, x, y => x = y | .ne, x, y => x = y | .lt, x, y => x < y | .ge, x, y => x < y | .gt, x, y => y < x | .le, x, y => y < x
theorem own_ii {cd : ClassFile.Cond} {x y : Int32} : (own_base cd x y → if_icmp.holds cd x y = own_pos cd) ∧ (¬ own_base cd x y → if_icmp.holds cd x y = !own_pos cd) := by
  cases cd <;> simp only [own_base, own_pos, Bool.not_true, Bool.not_false]
  · exact ⟨XT.ii_eq_t, XT.ii_eq_f⟩
  · exact ⟨XT.ii_ne_f, XT.ii_ne_t⟩
  · exact ⟨XT.ii_lt_t, XT.ii_lt_f⟩
  · exact ⟨XT.ii_ge_f, XT.ii_ge_t⟩
  · exact ⟨XT.ii_gt_t, XT.ii_gt_f⟩
  · exact ⟨XT.ii_le_f, XT.ii_le_t⟩
theorem own_ll {cd : ClassFile.Cond} {x y : Int64} : (own_base cd x y → ifCond.holds cd (XT.cmpL x y) = own_pos cd) ∧ (¬ own_base cd x y → ifCond.holds cd (XT.cmpL x y) = !own_pos cd) := by
  cases cd <;> simp only [own_base, own_pos, Bool.not_true, Bool.not_false]
  · exact ⟨XT.ll_eq_t, XT.ll_eq_f⟩
  · exact ⟨XT.ll_ne_f, XT.ll_ne_t⟩
  · exact ⟨XT.ll_lt_t, XT.ll_lt_f⟩
  · exact ⟨XT.ll_ge_f, XT.ll_ge_t⟩
  · exact ⟨XT.ll_gt_t, XT.ll_gt_f⟩
  · exact ⟨XT.ll_le_f, XT.ll_le_t⟩
theorem own_icmpP (X : Stand p l e R s m args below meth c T locs cells slots) (hx : p.tables.exec = Jvm.exec) {x y : Int32} {cd : ClassFile.Cond} {o : Int} {pt : Nat} (hd : decode c.code pc = .ok (.if_icmp cd o, 3)) (ho : 0 ≤ (pc : Int) + o) (hp : ((pc : Int) + o).toNat = pt) (hq : pc + 3 = q) (hs : own_pos cd = true) (K1 : own_base cd x y → own_Go p e below P (T.setTop (mkF m pt Ls st))) (K2 : ¬ own_base cd x y → own_Go p e below P (T.setTop (mkF m q Ls st))) : own_Go p e below P (T.setTop (mkF m pc Ls (.int y :: .int x :: st))) := by
  subst hq
  by_cases h : own_base cd x y
  · exact own_via (fun t => XS.icmpYes X.here hx rfl (pc0 := pc) (pc' := pt) rfl hd rfl ((own_ii.1 h).trans hs) ho hp) (K1 h)
  · exact own_via (fun t => XS.icmpNo X.here hx rfl hd rfl ((own_ii.2 h).trans (by rw [hs]; rfl))) (K2 h)
theorem own_icmpM (X : Stand p l e R s m args below meth c T locs cells slots) (hx : p.tables.exec = Jvm.exec) {x y : Int32} {cd : ClassFile.Cond} {o : Int} {pt : Nat} (hd : decode c.code pc = .ok (.if_icmp cd o, 3)) (ho : 0 ≤ (pc : Int) + o) (hp : ((pc : Int) + o).toNat = pt) (hq : pc + 3 = q) (hs : own_pos cd = false) (K1 : ¬ own_base cd x y → own_Go p e below P (T.setTop (mkF m pt Ls st))) (K2 : own_base cd x y → own_Go p e below P (T.setTop (mkF m q Ls st))) : own_Go p e below P (T.setTop (mkF m pc Ls (.int y :: .int x :: st))) := by
  subst hq
  by_cases h : own_base cd x y
  · exact own_via (fun t => XS.icmpNo X.here hx rfl hd rfl ((own_ii.1 h).trans hs)) (K2 h)
  · exact own_via (fun t => XS.icmpYes X.here hx rfl (pc0 := pc) (pc' := pt) rfl hd rfl ((own_ii.2 h).trans (by rw [hs]; rfl)) ho hp) (K1 h)
theorem own_if0P (X : Stand p l e R s m args below meth c T locs cells slots) (hx : p.tables.exec = Jvm.exec) {x : Int32} {cd : ClassFile.Cond} {o : Int} {pt : Nat} (hd : decode c.code pc = .ok (.ifCond cd o, 3)) (ho : 0 ≤ (pc : Int) + o) (hp : ((pc : Int) + o).toNat = pt) (hq : pc + 3 = q) (hs : own_pos cd = true) (K1 : own_base cd x (0 : Int32) → own_Go p e below P (T.setTop (mkF m pt Ls st))) (K2 : ¬ own_base cd x (0 : Int32) → own_Go p e below P (T.setTop (mkF m q Ls st))) : own_Go p e below P (T.setTop (mkF m pc Ls (.int x :: st))) := by
  subst hq
  by_cases h : own_base cd x (0 : Int32)
  · exact own_via (fun t => XS.ifYes X.here hx rfl (pc0 := pc) (pc' := pt) rfl hd rfl ((if0 cd x).trans ((own_ii (y := 0).1 h).trans hs)) ho hp) (K1 h)
  · exact own_via (fun t => XS.ifNo X.here hx rfl hd rfl ((if0 cd x).trans ((own_ii (y := 0).2 h).trans (by rw [hs]; rfl)))) (K2 h)
theorem own_if0M (X : Stand p l e R s m args below meth c T locs cells slots) (hx : p.tables.exec = Jvm.exec) {x : Int32} {cd : ClassFile.Cond} {o : Int} {pt : Nat} (hd : decode c.code pc = .ok (.ifCond cd o, 3)) (ho : 0 ≤ (pc : Int) + o) (hp : ((pc : Int) + o).toNat = pt) (hq : pc + 3 = q) (hs : own_pos cd = false) (K1 : ¬ own_base cd x (0 : Int32) → own_Go p e below P (T.setTop (mkF m pt Ls st))) (K2 : own_base cd x (0 : Int32) → own_Go p e below P (T.setTop (mkF m q Ls st))) : own_Go p e below P (T.setTop (mkF m pc Ls (.int x :: st))) := by
  subst hq
  by_cases h : own_base cd x (0 : Int32)
  · exact own_via (fun t => XS.ifNo X.here hx rfl hd rfl ((if0 cd x).trans ((own_ii (y := 0).1 h).trans hs))) (K2 h)
  · exact own_via (fun t => XS.ifYes X.here hx rfl (pc0 := pc) (pc' := pt) rfl hd rfl ((if0 cd x).trans ((own_ii (y := 0).2 h).trans (by rw [hs]; rfl))) ho hp) (K1 h)
theorem own_ifLP (X : Stand p l e R s m args below meth c T locs cells slots) (hx : p.tables.exec = Jvm.exec) {x y : Int64} {cd : ClassFile.Cond} {o : Int} {pt : Nat} (hd : decode c.code pc = .ok (.ifCond cd o, 3)) (ho : 0 ≤ (pc : Int) + o) (hp : ((pc : Int) + o).toNat = pt) (hq : pc + 3 = q) (hs : own_pos cd = true) (K1 : own_base cd x y → own_Go p e below P (T.setTop (mkF m pt Ls st))) (K2 : ¬ own_base cd x y → own_Go p e below P (T.setTop (mkF m q Ls st))) : own_Go p e below P (T.setTop (mkF m pc Ls (.int (XT.cmpL x y) :: st))) := by
  subst hq
  by_cases h : own_base cd x y
  · exact own_via (fun t => XS.ifYes X.here hx rfl (pc0 := pc) (pc' := pt) rfl hd rfl ((own_ll.1 h).trans hs) ho hp) (K1 h)
  · exact own_via (fun t => XS.ifNo X.here hx rfl hd rfl ((own_ll.2 h).trans (by rw [hs]; rfl))) (K2 h)
theorem own_ifLM (X : Stand p l e R s m args below meth c T locs cells slots) (hx : p.tables.exec = Jvm.exec) {x y : Int64} {cd : ClassFile.Cond} {o : Int} {pt : Nat} (hd : decode c.code pc = .ok (.ifCond cd o, 3)) (ho : 0 ≤ (pc : Int) + o) (hp : ((pc : Int) + o).toNat = pt) (hq : pc + 3 = q) (hs : own_pos cd = false) (K1 : ¬ own_base cd x y → own_Go p e below P (T.setTop (mkF m pt Ls st))) (K2 : own_base cd x y → own_Go p e below P (T.setTop (mkF m q Ls st))) : own_Go p e below P (T.setTop (mkF m pc Ls (.int (XT.cmpL x y) :: st))) := by
  subst hq
  by_cases h : own_base cd x y
  · exact own_via (fun t => XS.ifNo X.here hx rfl hd rfl ((own_ll.1 h).trans hs)) (K2 h)
  · exact own_via (fun t => XS.ifYes X.here hx rfl (pc0 := pc) (pc' := pt) rfl hd rfl ((own_ll.2 h).trans (by rw [hs]; rfl)) ho hp) (K1 h)
theorem own_acmp (X : Stand p l e R s m args below meth c T locs cells slots) (hx : p.tables.exec = Jvm.exec) {cd : ACond} {v w : Value} {o : Int} {same : Bool} (hv : v.isRef = true) (hw : w.isRef = true) (hd : decode c.code pc = .ok (.if_acmp cd o, 3)) (hs : decide (v = w) = same) (ho : 0 ≤ (pc : Int) + o) (hp : q = if acV cd same = true then ((pc : Int) + o).toNat else pc + 3) (K : own_Go p e below P (T.setTop (mkF m q Ls st))) : own_Go p e below P (T.setTop (mkF m pc Ls (w :: v :: st))) := by
  exact own_via (fun t => acmp X hx rfl hv hw (pc0 := pc) rfl hd rfl hs ho hp) K
theorem own_nullY (X : Stand p l e R s m args below meth c T locs cells slots) (hx : p.tables.exec = Jvm.exec) {o : Int} (hd : decode c.code pc = .ok (.ifnull o, 3)) (ho : 0 ≤ (pc : Int) + o) (hp : ((pc : Int) + o).toNat = q) (K : own_Go p e below P (T.setTop (mkF m q Ls st))) : own_Go p e below P (T.setTop (mkF m pc Ls (.null :: st))) := by
  exact own_via (fun t => XS.ifnullYes X.here hx rfl (pc0 := pc) (pc' := q) rfl hd rfl ho hp) K
theorem own_nullN (X : Stand p l e R s m args below meth c T locs cells slots) (hx : p.tables.exec = Jvm.exec) {o : Int} {a : Addr} (hd : decode c.code pc = .ok (.ifnull o, 3)) (hq : pc + 3 = q) (K : own_Go p e below P (T.setTop (mkF m q Ls st))) : own_Go p e below P (T.setTop (mkF m pc Ls (.ref a :: st))) := by
  subst hq; exact own_via (fun t => XS.ifnullNo X.here hx rfl hd rfl) K
theorem own_nonnullY (X : Stand p l e R s m args below meth c T locs cells slots) (hx : p.tables.exec = Jvm.exec) {o : Int} {a : Addr} (hd : decode c.code pc = .ok (.ifnonnull o, 3)) (ho : 0 ≤ (pc : Int) + o) (hp : ((pc : Int) + o).toNat = q) (K : own_Go p e below P (T.setTop (mkF m q Ls st))) : own_Go p e below P (T.setTop (mkF m pc Ls (.ref a :: st))) := by
  exact own_via (fun t => XT.ifnonnullYes X.here hx rfl (pc0 := pc) (pc' := q) rfl hd rfl ho hp) K
theorem own_nonnullN (X : Stand p l e R s m args below meth c T locs cells slots) (hx : p.tables.exec = Jvm.exec) {o : Int} (hd : decode c.code pc = .ok (.ifnonnull o, 3)) (hq : pc + 3 = q) (K : own_Go p e below P (T.setTop (mkF m q Ls st))) : own_Go p e below P (T.setTop (mkF m pc Ls (.null :: st))) := by
  subst hq; exact own_via (fun t => XT.ifnonnullNo X.here hx rfl hd rfl) K
theorem own_retN (X : Stand p l e R s m args below meth c T locs cells slots) (hx : p.tables.exec = Jvm.exec) (hlk : meth.locks = false) {rest : List Value} {z : Int32} {t : FieldType} (ht : t = .boolean ∨ t = .byte ∨ t = .char ∨ t = .short) (hret : meth.sig.returnType = some t) (hd : decode c.code pc = .ok (.ireturn, 1)) (hqq : Q (some (.int (nar t z))) T.heap locs) (hc : cells ≤ kc) (hs : slots ≤ ks)  : own_Go p e below (own_E s kc ks Q) (T.setTop (mkF m pc Ls (.int z :: rest))) := by
  obtain ⟨fs, hr, hrun, hended, hW, hsame⟩ := X.leave (v := (some (.int (nar t z)))) (fun h => by rw [hret] at h; cases h) hlk
  exact ⟨_, _, retN X hx hret ht hd hr, hrun, hended, _, _, rfl, hqq, ⟨_, rfl⟩, hW, hsame.mono hc hs⟩
theorem own_retI (X : Stand p l e R s m args below meth c T locs cells slots) (hx : p.tables.exec = Jvm.exec) (hlk : meth.locks = false) {rest : List Value} {z : Int32} (hret : meth.sig.returnType = some .int) (hd : decode c.code pc = .ok (.ireturn, 1)) (hqq : Q (some (.int z)) T.heap locs) (hc : cells ≤ kc) (hs : slots ≤ ks)  : own_Go p e below (own_E s kc ks Q) (T.setTop (mkF m pc Ls (.int z :: rest))) := by
  obtain ⟨fs, hr, hrun, hended, hW, hsame⟩ := X.leave (v := (some (.int z))) (fun h => by rw [hret] at h; cases h) hlk
  exact ⟨_, _, retOut X hx hret rfl (Or.inl ⟨rfl, Or.inl rfl, z, rfl⟩) hd hr, hrun, hended, _, _, rfl, hqq, ⟨_, rfl⟩, hW, hsame.mono hc hs⟩
theorem own_retJ (X : Stand p l e R s m args below meth c T locs cells slots) (hx : p.tables.exec = Jvm.exec) (hlk : meth.locks = false) {rest : List Value} {z : Int64} (hret : meth.sig.returnType = some .long) (hd : decode c.code pc = .ok (.lreturn, 1)) (hqq : Q (some (.long z)) T.heap locs) (hc : cells ≤ kc) (hs : slots ≤ ks)  : own_Go p e below (own_E s kc ks Q) (T.setTop (mkF m pc Ls (.long z :: rest))) := by
  obtain ⟨fs, hr, hrun, hended, hW, hsame⟩ := X.leave (v := (some (.long z))) (fun h => by rw [hret] at h; cases h) hlk
  exact ⟨_, _, retOut X hx hret rfl (Or.inr (Or.inl ⟨rfl, rfl, z, rfl⟩)) hd hr, hrun, hended, _, _, rfl, hqq, ⟨_, rfl⟩, hW, hsame.mono hc hs⟩
theorem own_retA (X : Stand p l e R s m args below meth c T locs cells slots) (hx : p.tables.exec = Jvm.exec) (hlk : meth.locks = false) {rest : List Value} {w : Value} {t : FieldType} (hw : w.isRef = true) (ht : t.isReference = true) (hn : narrow t w = w) (hret : meth.sig.returnType = some t) (hd : decode c.code pc = .ok (.areturn, 1)) (hqq : Q (some w) T.heap locs) (hc : cells ≤ kc) (hs : slots ≤ ks)  : own_Go p e below (own_E s kc ks Q) (T.setTop (mkF m pc Ls (w :: rest))) := by
  obtain ⟨fs, hr, hrun, hended, hW, hsame⟩ := X.leave (v := (some w)) (fun h => by rw [hret] at h; cases h) hlk
  exact ⟨_, _, retOut X hx hret hn (Or.inr (Or.inr (Or.inr (Or.inr ⟨rfl, ht, hw⟩)))) hd hr, hrun, hended, _, _, rfl, hqq, ⟨_, rfl⟩, hW, hsame.mono hc hs⟩
theorem own_retV (X : Stand p l e R s m args below meth c T locs cells slots) (hx : p.tables.exec = Jvm.exec) (hlk : meth.locks = false) {rest : List Value} (hret : meth.sig.returnType = none) (hd : decode c.code pc = .ok (.return_, 1)) (hqq : Q none T.heap locs) (hc : cells ≤ kc) (hs : slots ≤ ks)  : own_Go p e below (own_E s kc ks Q) (T.setTop (mkF m pc Ls [])) := by
  obtain ⟨fs, hr, hrun, hended, hW, hsame⟩ := X.leave (v := none) (fun _ => rfl) hlk
  exact ⟨_, _, X.returnOut hx hret hd hr, hrun, hended, _, _, rfl, hqq, ⟨_, rfl⟩, hW, hsame.mono hc hs⟩
theorem own_callS (X : Stand p l e R s m args below meth c T locs cells slots) (hx : p.tables.exec = Jvm.exec) {Z : State} {a0 : Array Value} {h : Heap} {own : String} {index : Nat} {y : MethodName} {bytes : ByteArray} {maxL : Nat} {ret : Option FieldType} {rm : Room} {W : Nat} {argsL : List Value} {Qc : Option Value → Heap → List Loc → Prop} {ps : List FieldType} {r : Option FieldType} {st0 : List Value} (hZ : Z.Warmed39 s.vm) (hown : s.vm.findClass own = some m.cls) (w1 : (Cond.methodLink own index y).before a0 Z = true) (w2 : (Cond.static y).before a0 Z = true) (w3 : (Cond.initialized y.cls).before a0 Z = true) (w4 : (Cond.code y bytes maxL ret).before a0 Z = true) (hy : y.cls ≠ "java/lang/invoke/MethodHandle" ∧ y.cls ≠ "java/lang/invoke/VarHandle") (hM : MetFree l y (head1 [Cond.code y bytes maxL ret] rm) (fun aa U => aa = argsL.toArray ∧ Z.Warmed39 U.vm ∧ U.heap = h) (fun _ _ _ _ _ => True) (fun _ U o U' => ∃ v L, o = .returned v ∧ Qc v U'.heap L ∧ FrameEnd U o U' L rm.cells rm.slots)) (hpd : parseMethodDescriptor y.desc = some ⟨ps, r⟩) (hlen : argsL.length = ps.length) (eT : T.heap = h) (hml : Ls.size = c.maxLocals) (hst : st0 = argsL.reverse ++ st) (hW : (st.map fun v => v.category).sum ≤ W) (hf : rm.frames + 1 ≤ R.frames) (hl : W + (maxL + 11) + rm.locals ≤ R.locals) (hc : cells + rm.cells ≤ R.cells) (hs : slots + rm.slots ≤ R.slots) (hd : decode c.code pc = .ok (.invokestatic index, 3)) (hq : pc + 3 = q) (K : ∀ v T' L, Stand p l e R s m args below meth c T' (locs ++ L) (cells + rm.cells) (slots + rm.slots) → Qc v T'.heap L → own_Go p e below P (T'.setTop (mkF m q Ls (v.toList ++ st)))) : own_Go p e below P (T.setTop (mkF m pc Ls st0)) := by
  subst hq hst
  obtain ⟨v, _, ⟨T', L', k', n'⟩, -, X', ⟨Lc, hQ, l', y', z'⟩, st'⟩ := Jvm.LawKit.callS X hx hown (mvT hZ w1) (mvT hZ w2) (mvT hZ w3) (mvT hZ w4) hy (backOf (W := W) hM hZ w4 w3 hf hl) (g := mkF m pc Ls (argsL.reverse ++ st)) rfl hml (argsL := argsL) (rest := st) (lenOf hpd hlen) rfl (by show 2 * 0 + _ ≤ _; omega) hd (fun _ _ => ⟨rfl, eT, hc, hs⟩)
  dsimp only [Pt.U, Pt.locs, Pt.cells, Pt.slots] at X' l' y' z' st' hQ
  subst l' y' z'
  exact own_via (fun t => st' t) (K v T' Lc X' hQ)
theorem own_callC (X : Stand p l e R s m args below meth c T locs cells slots) (hx : p.tables.exec = Jvm.exec) {a : Addr} {Z : State} {a0 : Array Value} {h : Heap} {own : String} {index : Nat} {y : MethodName} {bytes : ByteArray} {maxL : Nat} {rm : Room} {W : Nat} {argsL : List Value} {Qc : Option Value → Heap → List Loc → Prop} {ps : List FieldType} {r : Option FieldType} {st0 : List Value} (hZ : Z.Warmed39 s.vm) (hown : s.vm.findClass own = some m.cls) (hy1 : y.name = "<init>") (w1 : (Cond.methodLink own index y).before a0 Z = true) (w2 : (Cond.instanceMethod y).before a0 Z = true) (w3 : (Cond.initialized y.cls).before a0 Z = true) (w4 : (Cond.code y bytes maxL none).before a0 Z = true) (hy : y.cls ≠ "java/lang/invoke/MethodHandle" ∧ y.cls ≠ "java/lang/invoke/VarHandle") (hM : MetFree l y (head1 [Cond.code y bytes maxL none] rm) (fun aa U => aa = (.ref a :: argsL).toArray ∧ Z.Warmed39 U.vm ∧ U.heap = h) (fun _ _ _ _ _ => True) (fun _ U o U' => ∃ v L, o = .returned v ∧ Qc v U'.heap L ∧ FrameEnd U o U' L rm.cells rm.slots)) (hpd : parseMethodDescriptor y.desc = some ⟨ps, r⟩) (hlen : argsL.length = ps.length) (eT : T.heap = h) (hml : Ls.size = c.maxLocals) (hst : st0 = argsL.reverse ++ .ref a :: st) (hW : (st.map fun v => v.category).sum ≤ W) (hf : rm.frames + 1 ≤ R.frames) (hl : W + (maxL + 11) + rm.locals ≤ R.locals) (hc : cells + rm.cells ≤ R.cells) (hs : slots + rm.slots ≤ R.slots) (hd : decode c.code pc = .ok (.invokespecial index, 3)) (hq : pc + 3 = q) (K : ∀ v T' L, Stand p l e R s m args below meth c T' (locs ++ L) (cells + rm.cells) (slots + rm.slots) → Qc v T'.heap L → own_Go p e below P (T'.setTop (mkF m q Ls (v.toList ++ st)))) : own_Go p e below P (T.setTop (mkF m pc Ls st0)) := by
  subst hq hst
  obtain ⟨v, _, ⟨T', L', k', n'⟩, -, X', ⟨Lc, hQ, l', y', z'⟩, st'⟩ := X.specialBack hx hy1 hown (mvT hZ w1) (mvT hZ w2) (mvT hZ w4) hy (backOf (W := W) hM hZ w4 w3 hf hl) (g := mkF m pc Ls (argsL.reverse ++ .ref a :: st)) rfl hml (Steps.refl _) (a := a) (argsL := argsL) (rest := st) (lenOf hpd hlen) rfl (by show 2 * 0 + _ ≤ _; omega) hd (fun _ _ => ⟨rfl, eT, hc, hs⟩)
  dsimp only [Pt.U, Pt.locs, Pt.cells, Pt.slots] at X' l' y' z' st' hQ
  subst l' y' z'
  exact own_via (fun t => st'.trans) (K v T' Lc X' hQ)
theorem own_callV (X : Stand p l e R s m args below meth c T locs cells slots) (hx : p.tables.exec = Jvm.exec) {a : Addr} {C : String} {z : MethodName} {Z : State} {a0 : Array Value} {h : Heap} {own : String} {index : Nat} {y : MethodName} {bytes : ByteArray} {maxL : Nat} {ret : Option FieldType} {rm : Room} {W : Nat} {argsL : List Value} {Qc : Option Value → Heap → List Loc → Prop} {ps : List FieldType} {r : Option FieldType} {st0 : List Value} (hZ : Z.Warmed39 s.vm) (hown : s.vm.findClass own = some m.cls) (w1 : (Cond.methodLink own index y).before a0 Z = true) (w2 : (Cond.declares y).before a0 Z = true) (w5 : (Cond.selects y.cls y y).before a0 Z = true) (w6 : (Cond.selects C y z).before a0 Z = true) (w7 : (Cond.instanceMethod z).before a0 Z = true) (w3 : (Cond.initialized z.cls).before a0 Z = true) (w4 : (Cond.code z bytes maxL ret).before a0 Z = true) (E : Exa Z h a C) (hy : y.cls ≠ "java/lang/invoke/MethodHandle" ∧ y.cls ≠ "java/lang/invoke/VarHandle") (hM : MetFree l z (head1 [Cond.code z bytes maxL ret] rm) (fun aa U => aa = (.ref a :: argsL).toArray ∧ Z.Warmed39 U.vm ∧ U.heap = h) (fun _ _ _ _ _ => True) (fun _ U o U' => ∃ v L, o = .returned v ∧ Qc v U'.heap L ∧ FrameEnd U o U' L rm.cells rm.slots)) (hpd : parseMethodDescriptor y.desc = some ⟨ps, r⟩) (hlen : argsL.length = ps.length) (eT : T.heap = h) (hml : Ls.size = c.maxLocals) (hst : st0 = argsL.reverse ++ .ref a :: st) (hW : (st.map fun v => v.category).sum ≤ W) (hf : rm.frames + 1 ≤ R.frames) (hl : W + (maxL + 11) + rm.locals ≤ R.locals) (hc : cells + rm.cells ≤ R.cells) (hs : slots + rm.slots ≤ R.slots) (hd : decode c.code pc = .ok (.invokevirtual index, 3)) (hq : pc + 3 = q) (K : ∀ v T' L, Stand p l e R s m args below meth c T' (locs ++ L) (cells + rm.cells) (slots + rm.slots) → Qc v T'.heap L → own_Go p e below P (T'.setTop (mkF m q Ls (v.toList ++ st)))) : own_Go p e below P (T.setTop (mkF m pc Ls st0)) := by
  subst hq hst
  obtain ⟨cq, kq, qa, qb, qc⟩ := isOf hZ eT E
  obtain ⟨v, _, ⟨T', L', k', n'⟩, -, X', ⟨Lc, hQ, l', y', z'⟩, st'⟩ := X.virtualBack hx (y := y) (z := z) hown (mvT hZ w1) (mvT hZ w2) (notFace_of_selects (args := #[]) (mvT hZ w5)) (mvT hZ w6) (mvT hZ w7) hy (backOf (W := W) hM hZ w4 w3 hf hl) qa qc (g := mkF m pc Ls (argsL.reverse ++ .ref a :: st)) rfl hml (Steps.refl _) (argsL := argsL) (rest := st) (lenOf hpd hlen) rfl (by show 2 * 0 + _ ≤ _; omega) hd (fun _ _ => ⟨rfl, eT, hc, hs⟩)
  dsimp only [Pt.U, Pt.locs, Pt.cells, Pt.slots] at X' l' y' z' st' hQ
  subst l' y' z'
  exact own_via (fun t => st'.trans) (K v T' Lc X' hQ)
theorem own_new (X : Stand p l e R s m args below meth c T locs cells slots) (hx : p.tables.exec = Jvm.exec) {Z : State} {a0 : Array Value} {h : Heap} (hZ : Z.Warmed39 s.vm) {own : String} {i : Nat} (hown : s.vm.findClass own = some m.cls) {C : String} {n : Nat} (w : (Cond.classLink own i C).before a0 Z = true) (wi : (Cond.instantiable C n).before a0 Z = true) (wz : (Cond.initialized C).before a0 Z = true) (eT : T.heap = h) (hd : decode c.code pc = .ok (.new i, 3)) (hc : cells + 1 ≤ R.cells) (hl : slots + n ≤ R.slots) (hq : pc + 3 = q) (K : ∀ T' h' a, Stand p l e R s m args below meth c T' locs (cells + 1) (slots + n) → T'.heap = h' → a = h.size → Ext h h' → Exa Z h' a C → (∀ {O nm d : String} {ty : FieldType}, Laid Z a0 C O nm d → parseFieldDescriptor d = some ty → Fld Z h' a O nm d (defaultValue ty)) → own_Go p e below P (T'.setTop (mkF m q Ls (.ref a :: st)))) : own_Go p e below P (T.setTop (mkF m pc Ls st)) := by
  subst hq
  obtain ⟨T', h', X', e', E', A', D', -, st'⟩ := newO X hx hZ hown w wi wz eT (g := mkF m pc Ls st) rfl hd hc hl
  exact own_via (fun t => st' t) (K T' h' _ X' e' rfl E' A' D')
theorem own_getF (X : Stand p l e R s m args below meth c T locs cells slots) (hx : p.tables.exec = Jvm.exec) {Z : State} {a0 : Array Value} {h : Heap} (hZ : Z.Warmed39 s.vm) {own : String} {i : Nat} (hown : s.vm.findClass own = some m.cls) {a : Addr} {v : Value} {R0 O n d host : String} (w : (Cond.fieldLink own i R0 n d).before a0 Z = true ∨ (Cond.fieldLinkNest own i R0 n d host).before a0 Z = true) (via : Via Z R0 O n d) (eT : T.heap = h) (F : Fld Z h a O n d v) (hd : decode c.code pc = .ok (.getfield i, 3)) (hq : pc + 3 = q) (K : ∀ T', Stand p l e R s m args below meth c T' locs cells slots → T'.heap = h → own_Go p e below P (T'.setTop (mkF m q Ls (v :: st)))) : own_Go p e below P (T.setTop (mkF m pc Ls (.ref a :: st))) := by
  subst hq
  obtain ⟨T', X', e', st'⟩ := getF X hx hZ hown w via eT F (g := mkF m pc Ls (.ref a :: st)) rfl rfl hd
  exact own_via (fun t => st' t) (K T' X' e')
theorem own_putF (X : Stand p l e R s m args below meth c T locs cells slots) (hx : p.tables.exec = Jvm.exec) {Z : State} {a0 : Array Value} {h : Heap} (hZ : Z.Warmed39 s.vm) {own : String} {i : Nat} (hown : s.vm.findClass own = some m.cls) {a : Addr} {v old : Value} {R0 O n d host C : String} {kk : Nat} {ty : FieldType} (w : (Cond.fieldLink own i R0 n d).before a0 Z = true ∨ (Cond.fieldLinkNest own i R0 n d host).before a0 Z = true) (via : Via Z R0 O n d) (eT : T.heap = h) (F : Fld Z h a O n d old) (E : Exa Z h a C) (L : (Cond.lays C O n d).before a0 Z = true ∨ ((Cond.laysFinal C O n d).before a0 Z = true ∧ own = O ∧ meth.name = "<init>")) (wi : (Cond.instantiable C kk).before a0 Z = true) (hty : parseFieldDescriptor d = some ty) (hn : narrow ty v = v) (hf : fits ty v = true) (hd : decode c.code pc = .ok (.putfield i, 3)) (hq : pc + 3 = q) (K : ∀ T' h', Stand p l e R s m args below meth c T' (locs ++ [⟨a, RoadKit.slotOf Z O n d⟩]) cells slots → T'.heap = h' → Wr h h' a (RoadKit.slotOf Z O n d) v → own_Go p e below P (T'.setTop (mkF m q Ls st))) : own_Go p e below P (T.setTop (mkF m pc Ls (v :: .ref a :: st))) := by
  subst hq
  obtain ⟨T', h', X', e', W', st'⟩ := putF X hx hZ hown w via eT F E L wi hty hn hf (g := mkF m pc Ls (v :: .ref a :: st)) rfl rfl hd
  exact own_via (fun t => st' t) (K T' h' X' e' W')
theorem own_initO (X : Stand p l e R s m args below meth c T locs cells slots) (hx : p.tables.exec = Jvm.exec) {Z : State} {a0 : Array Value} {h : Heap} (hZ : Z.Warmed39 s.vm) {own : String} {i : Nat} (hown : s.vm.findClass own = some m.cls) {a : Addr} {W : Nat} (w1 : (Cond.methodLink own i Lib.objectInit).before a0 Z = true) (w2 : (Cond.instanceMethod Lib.objectInit).before a0 Z = true) (w3 : (Cond.code Lib.objectInit ⟨#[0xb1]⟩ 1 none).before a0 Z = true) (eT : T.heap = h) (hml : Ls.size = c.maxLocals) (hf : 1 ≤ R.frames) (hW : (st.map fun v => v.category).sum ≤ W) (hl : W + 12 ≤ R.locals) (hd : decode c.code pc = .ok (.invokespecial i, 3)) (hq : pc + 3 = q) (K : ∀ T', Stand p l e R s m args below meth c T' locs cells slots → T'.heap = h → own_Go p e below P (T'.setTop (mkF m q Ls st))) : own_Go p e below P (T.setTop (mkF m pc Ls (.ref a :: st))) := by
  subst hq
  obtain ⟨T', X', e', st'⟩ := initO X hx hZ hown w1 w2 w3 eT (g := mkF m pc Ls (.ref a :: st)) rfl hml rfl hd hf (W := W) (by show 2 * 0 + _ ≤ _; omega) hl
  exact own_via (fun t => st' t) (K T' X' e')
theorem own_getS (X : Stand p l e R s m args below meth c T locs cells slots) (hx : p.tables.exec = Jvm.exec) {Z : State} {a0 : Array Value} {h : Heap} (hZ : Z.Warmed39 s.vm) {own : String} {i : Nat} (hown : s.vm.findClass own = some m.cls) {v : Value} {R0 O n d : String} (w : (Cond.fieldLink own i R0 n d).before a0 Z = true) (via : Via Z R0 O n d) (eT : T.heap = h) (F : Sta Z h O n d v) (hd : decode c.code pc = .ok (.getstatic i, 3)) (hq : pc + 3 = q) (K : ∀ T', Stand p l e R s m args below meth c T' locs cells slots → T'.heap = h → own_Go p e below P (T'.setTop (mkF m q Ls (v :: st)))) : own_Go p e below P (T.setTop (mkF m pc Ls st)) := by
  subst hq
  obtain ⟨T', X', e', st'⟩ := getS X hx hZ (host := "") hown w via eT F (g := mkF m pc Ls st) rfl hd
  exact own_via (fun t => st' t) (K T' X' e')
def own_V (h : Heap) (v : Option Value) (h' : Heap) (L : List Loc) : Prop := v = none ∧ h' = h ∧ L = []
def own_Lk (X : Stand p l e R s m args below meth c T locs cells slots) (T' : State) (locs' : List Loc) : Prop := Stand p l e R s m args below meth c T' locs' cells slots
theorem own_Lk.get {X : Stand p l e R s m args below meth c T locs cells slots} {T' : State} {locs' : List Loc} (h : own_Lk X T' locs') : Stand p l e R s m args below meth c T' locs' cells slots := h
def own_Like (X : Stand p l e R s m args below meth c T locs cells slots) (T' : State) : Prop := Stand p l e R s m args below meth c T' locs cells slots ∧ T'.heap = T.heap
def own_A (Z : State) (h : Heap) (a : Addr) (ty : FieldType) (vs : List Value) : Prop := ∃ c : Cell, Arr Z h a c ty ∧ c.slots.toList = vs
theorem own_A.lt {Z : State} {h : Heap} {a : Addr} {ty : FieldType} {vs : List Value} (F : own_A Z h a ty vs) : a < h.size := by obtain ⟨c, A, -⟩ := F; exact A.lt
theorem own_A.ext {Z : State} {h h' : Heap} {a : Addr} {ty : FieldType} {vs : List Value} (F : own_A Z h a ty vs) (E : Ext h h') : own_A Z h' a ty vs := by obtain ⟨c, A, r⟩ := F; exact ⟨c, A.ext E, r⟩
theorem own_A.other {Z : State} {h h' : Heap} {a b : Addr} {ty : FieldType} {vs : List Value} {sl : Nat} {v : Value} (F : own_A Z h b ty vs) (W : Wr h h' a sl v) (q : b ≠ a) : own_A Z h' b ty vs := by obtain ⟨c, A, r⟩ := F; exact ⟨c, A.other W q, r⟩
theorem own_A.keep {Z : State} {h h' : Heap} {a : Addr} {ty : FieldType} {vs : List Value} {ws : List Addr} (F : own_A Z h a ty vs) (K : Keep h h' ws) (q : a ∉ ws) : own_A Z h' a ty vs := by obtain ⟨c, A, r⟩ := F; exact ⟨c, ⟨K.2.1 a c A.1 q, A.2⟩, r⟩
theorem own_A.set {Z : State} {h h' : Heap} {a : Addr} {ty : FieldType} {vs : List Value} {i : Nat} {v : Value} (F : own_A Z h a ty vs) (W : Wr h h' a i v) : own_A Z h' a ty (vs.set i v) := by
  obtain ⟨c, A, rfl⟩ := F; exact ⟨_, A.same W, by simp [Cell.setSlot]⟩
theorem own_in {c : Cell} {j : Int32} {i : Nat} (hn : ¬ j < 0) (hj : j.toNatClampNeg = i) (hi : i < c.slots.toList.length) : ¬ (j < 0 ∨ c.slots.size ≤ j.toNatClampNeg) := by
  rintro (h | h)
  · exact hn h
  · rw [hj] at h; rw [Array.length_toList] at hi; exact absurd hi (Nat.not_lt.mpr h)
theorem own_iaload (X : Stand p l e R s m args below meth c T locs cells slots) (hx : p.tables.exec = Jvm.exec) {Z : State} {h : Heap} (hZ : Z.Warmed39 s.vm) {a : Addr} {j : Int32} {i : Nat} {vs : List Value} (eT : T.heap = h) {v : Value} (F : own_A Z h a .int vs) (hn : ¬ j < 0) (hj : j.toNatClampNeg = i) (hv : vs[i]? = some v) (hd : decode c.code pc = .ok (.iaload, 1)) (hq : pc + 1 = q) (K : own_Go p e below P (T.setTop (mkF m q Ls (v :: st)))) : own_Go p e below P (T.setTop (mkF m pc Ls (.int j :: .ref a :: st))) := by
  subst hq
  obtain ⟨cl, A, rfl⟩ := F
  have hv' : cl.slots[j.toNatClampNeg]? = some v := by rw [hj, ← Array.getElem?_toList]; exact hv
  have hin := own_in (c := cl) hn hj (List.getElem?_eq_some_iff.mp hv).1
  exact own_via (fun t => X.iaload hx (by rw [eT]; exact A.1) (State.isArrayOf_alike hZ.alike A.2.1) A.2.2 hin hv' (g := mkF m pc Ls (.int j :: .ref a :: st)) rfl rfl hd t) K
theorem own_laload (X : Stand p l e R s m args below meth c T locs cells slots) (hx : p.tables.exec = Jvm.exec) {Z : State} {h : Heap} (hZ : Z.Warmed39 s.vm) {a : Addr} {j : Int32} {i : Nat} {vs : List Value} (eT : T.heap = h) {v : Value} (F : own_A Z h a .long vs) (hn : ¬ j < 0) (hj : j.toNatClampNeg = i) (hv : vs[i]? = some v) (hd : decode c.code pc = .ok (.laload, 1)) (hq : pc + 1 = q) (K : own_Go p e below P (T.setTop (mkF m q Ls (v :: st)))) : own_Go p e below P (T.setTop (mkF m pc Ls (.int j :: .ref a :: st))) := by
  subst hq
  obtain ⟨cl, A, rfl⟩ := F
  have hv' : cl.slots[j.toNatClampNeg]? = some v := by rw [hj, ← Array.getElem?_toList]; exact hv
  have hin := own_in (c := cl) hn hj (List.getElem?_eq_some_iff.mp hv).1
  exact own_via (fun t => X.laload hx (by rw [eT]; exact A.1) (State.isArrayOf_alike hZ.alike A.2.1) A.2.2 hin hv' (g := mkF m pc Ls (.int j :: .ref a :: st)) rfl rfl hd t) K
theorem own_caload (X : Stand p l e R s m args below meth c T locs cells slots) (hx : p.tables.exec = Jvm.exec) {Z : State} {h : Heap} (hZ : Z.Warmed39 s.vm) {a : Addr} {j : Int32} {i : Nat} {vs : List Value} (eT : T.heap = h) {v : Value} (F : own_A Z h a .char vs) (hn : ¬ j < 0) (hj : j.toNatClampNeg = i) (hv : vs[i]? = some v) (hd : decode c.code pc = .ok (.caload, 1)) (hq : pc + 1 = q) (K : own_Go p e below P (T.setTop (mkF m q Ls (v :: st)))) : own_Go p e below P (T.setTop (mkF m pc Ls (.int j :: .ref a :: st))) := by
  subst hq
  obtain ⟨cl, A, rfl⟩ := F
  have hv' : cl.slots[j.toNatClampNeg]? = some v := by rw [hj, ← Array.getElem?_toList]; exact hv
  have hin := own_in (c := cl) hn hj (List.getElem?_eq_some_iff.mp hv).1
  exact own_via (fun t => X.caload hx (by rw [eT]; exact A.1) (State.isArrayOf_alike hZ.alike A.2.1) A.2.2 hin hv' (g := mkF m pc Ls (.int j :: .ref a :: st)) rfl rfl hd t) K
theorem own_baload (X : Stand p l e R s m args below meth c T locs cells slots) (hx : p.tables.exec = Jvm.exec) {Z : State} {h : Heap} (hZ : Z.Warmed39 s.vm) {a : Addr} {j : Int32} {i : Nat} {vs : List Value} (eT : T.heap = h) {v : Value} (F : own_A Z h a .byte vs) (hn : ¬ j < 0) (hj : j.toNatClampNeg = i) (hv : vs[i]? = some v) (hd : decode c.code pc = .ok (.baload, 1)) (hq : pc + 1 = q) (K : own_Go p e below P (T.setTop (mkF m q Ls (v :: st)))) : own_Go p e below P (T.setTop (mkF m pc Ls (.int j :: .ref a :: st))) := by
  subst hq
  obtain ⟨cl, A, rfl⟩ := F
  have hv' : cl.slots[j.toNatClampNeg]? = some v := by rw [hj, ← Array.getElem?_toList]; exact hv
  have hin := own_in (c := cl) hn hj (List.getElem?_eq_some_iff.mp hv).1
  exact own_via (fun t => X.baloadBytes hx (by rw [eT]; exact A.1) (State.isArrayOf_alike hZ.alike A.2.1) A.2.2 hin hv' (g := mkF m pc Ls (.int j :: .ref a :: st)) rfl rfl hd t) K
theorem own_zaload (X : Stand p l e R s m args below meth c T locs cells slots) (hx : p.tables.exec = Jvm.exec) {Z : State} {h : Heap} (hZ : Z.Warmed39 s.vm) {a : Addr} {j : Int32} {i : Nat} {vs : List Value} (eT : T.heap = h) {v : Value} (F : own_A Z h a .boolean vs) (hn : ¬ j < 0) (hj : j.toNatClampNeg = i) (hv : vs[i]? = some v) (hd : decode c.code pc = .ok (.baload, 1)) (hq : pc + 1 = q) (K : own_Go p e below P (T.setTop (mkF m q Ls (v :: st)))) : own_Go p e below P (T.setTop (mkF m pc Ls (.int j :: .ref a :: st))) := by
  subst hq
  obtain ⟨cl, A, rfl⟩ := F
  have hv' : cl.slots[j.toNatClampNeg]? = some v := by rw [hj, ← Array.getElem?_toList]; exact hv
  have hin := own_in (c := cl) hn hj (List.getElem?_eq_some_iff.mp hv).1
  exact own_via (fun t => X.baloadBooleans hx (by rw [eT]; exact A.1) (State.isArrayOf_alike hZ.alike A.2.1) A.2.2 hin hv' (g := mkF m pc Ls (.int j :: .ref a :: st)) rfl rfl hd t) K
theorem own_alen (X : Stand p l e R s m args below meth c T locs cells slots) (hx : p.tables.exec = Jvm.exec) {Z : State} {h : Heap} (hZ : Z.Warmed39 s.vm) {a : Addr} {vs : List Value} {ty : FieldType} {n : Int32} (eT : T.heap = h) (F : own_A Z h a ty vs) (hn : vs.length.toInt32 = n) (hd : decode c.code pc = .ok (.arraylength, 1)) (hq : pc + 1 = q) (K : own_Go p e below P (T.setTop (mkF m q Ls (.int n :: st)))) : own_Go p e below P (T.setTop (mkF m pc Ls (.ref a :: st))) := by
  subst hq
  obtain ⟨cl, A, rfl⟩ := F
  rw [Array.length_toList] at hn
  subst hn
  exact own_via (fun t => X.arraylength hx (by rw [eT]; exact A.1) (State.isArrayOf_alike hZ.alike A.2.1) (g := mkF m pc Ls (.ref a :: st)) rfl rfl hd t) K
theorem own_iastore (X : Stand p l e R s m args below meth c T locs cells slots) (hx : p.tables.exec = Jvm.exec) {Z : State} {h : Heap} (hZ : Z.Warmed39 s.vm) {a : Addr} {j : Int32} {i : Nat} {vs : List Value} (eT : T.heap = h) {x : Int32} (F : own_A Z h a .int vs) (hn : ¬ j < 0) (hj : j.toNatClampNeg = i) (hi : i < vs.length) (hd : decode c.code pc = .ok (.iastore, 1)) (hq : pc + 1 = q) (K : ∀ T' h', Stand p l e R s m args below meth c T' (locs ++ [⟨a, i⟩]) cells slots → T'.heap = h' → Wr h h' a i (.int x) → own_A Z h' a .int (vs.set i (.int x)) → own_Go p e below P (T'.setTop (mkF m q Ls st))) : own_Go p e below P (T.setTop (mkF m pc Ls (.int x :: .int j :: .ref a :: st))) := by
  subst hq hj
  have F' := F
  obtain ⟨cl, A, rfl⟩ := F
  have hin := own_in (c := cl) hn rfl hi
  obtain ⟨T', h', X', e', W', st'⟩ := stI X hx hZ eT A hin (g := mkF m pc Ls (.int x :: .int j :: .ref a :: st)) rfl rfl hd
  exact own_via (fun t => st' t) (K T' h' X' e' W' (F'.set W'))
theorem own_lastore (X : Stand p l e R s m args below meth c T locs cells slots) (hx : p.tables.exec = Jvm.exec) {Z : State} {h : Heap} (hZ : Z.Warmed39 s.vm) {a : Addr} {j : Int32} {i : Nat} {vs : List Value} (eT : T.heap = h) {x : Int64} (F : own_A Z h a .long vs) (hn : ¬ j < 0) (hj : j.toNatClampNeg = i) (hi : i < vs.length) (hd : decode c.code pc = .ok (.lastore, 1)) (hq : pc + 1 = q) (K : ∀ T' h', Stand p l e R s m args below meth c T' (locs ++ [⟨a, i⟩]) cells slots → T'.heap = h' → Wr h h' a i (.long x) → own_A Z h' a .long (vs.set i (.long x)) → own_Go p e below P (T'.setTop (mkF m q Ls st))) : own_Go p e below P (T.setTop (mkF m pc Ls (.long x :: .int j :: .ref a :: st))) := by
  subst hq hj
  have F' := F
  obtain ⟨cl, A, rfl⟩ := F
  have hin := own_in (c := cl) hn rfl hi
  obtain ⟨T', h', X', e', W', st'⟩ := stJ X hx hZ eT A hin (g := mkF m pc Ls (.long x :: .int j :: .ref a :: st)) rfl rfl hd
  exact own_via (fun t => st' t) (K T' h' X' e' W' (F'.set W'))
theorem own_castore (X : Stand p l e R s m args below meth c T locs cells slots) (hx : p.tables.exec = Jvm.exec) {Z : State} {h : Heap} (hZ : Z.Warmed39 s.vm) {a : Addr} {j : Int32} {i : Nat} {vs : List Value} (eT : T.heap = h) {x : Int32} (F : own_A Z h a .char vs) (hn : ¬ j < 0) (hj : j.toNatClampNeg = i) (hi : i < vs.length) (hd : decode c.code pc = .ok (.castore, 1)) (hq : pc + 1 = q) (K : ∀ T' h', Stand p l e R s m args below meth c T' (locs ++ [⟨a, i⟩]) cells slots → T'.heap = h' → Wr h h' a i (.int (nar .char x)) → own_A Z h' a .char (vs.set i (.int (nar .char x))) → own_Go p e below P (T'.setTop (mkF m q Ls st))) : own_Go p e below P (T.setTop (mkF m pc Ls (.int x :: .int j :: .ref a :: st))) := by
  subst hq hj
  have F' := F
  obtain ⟨cl, A, rfl⟩ := F
  have hin := own_in (c := cl) hn rfl hi
  obtain ⟨T', h', X', e', W', st'⟩ := stC X hx hZ eT A hin (g := mkF m pc Ls (.int x :: .int j :: .ref a :: st)) rfl rfl hd
  exact own_via (fun t => st' t) (K T' h' X' e' W' (F'.set W'))
theorem own_bastore (X : Stand p l e R s m args below meth c T locs cells slots) (hx : p.tables.exec = Jvm.exec) {Z : State} {h : Heap} (hZ : Z.Warmed39 s.vm) {a : Addr} {j : Int32} {i : Nat} {vs : List Value} (eT : T.heap = h) {x : Int32} (F : own_A Z h a .byte vs) (hn : ¬ j < 0) (hj : j.toNatClampNeg = i) (hi : i < vs.length) (hd : decode c.code pc = .ok (.bastore, 1)) (hq : pc + 1 = q) (K : ∀ T' h', Stand p l e R s m args below meth c T' (locs ++ [⟨a, i⟩]) cells slots → T'.heap = h' → Wr h h' a i (.int x.toInt8.toInt32) → own_A Z h' a .byte (vs.set i (.int x.toInt8.toInt32)) → own_Go p e below P (T'.setTop (mkF m q Ls st))) : own_Go p e below P (T.setTop (mkF m pc Ls (.int x :: .int j :: .ref a :: st))) := by
  subst hq hj
  have F' := F
  obtain ⟨cl, A, rfl⟩ := F
  have hin := own_in (c := cl) hn rfl hi
  obtain ⟨T', h', X', e', W', st'⟩ := stB X hx hZ eT A hin (g := mkF m pc Ls (.int x :: .int j :: .ref a :: st)) rfl rfl hd
  exact own_via (fun t => st' t) (K T' h' X' e' W' (F'.set W'))
theorem own_zastore (X : Stand p l e R s m args below meth c T locs cells slots) (hx : p.tables.exec = Jvm.exec) {Z : State} {h : Heap} (hZ : Z.Warmed39 s.vm) {a : Addr} {j : Int32} {i : Nat} {vs : List Value} (eT : T.heap = h) {x : Int32} (F : own_A Z h a .boolean vs) (hn : ¬ j < 0) (hj : j.toNatClampNeg = i) (hi : i < vs.length) (hd : decode c.code pc = .ok (.bastore, 1)) (hq : pc + 1 = q) (K : ∀ T' h', Stand p l e R s m args below meth c T' (locs ++ [⟨a, i⟩]) cells slots → T'.heap = h' → Wr h h' a i (.int (nar .boolean x)) → own_A Z h' a .boolean (vs.set i (.int (nar .boolean x))) → own_Go p e below P (T'.setTop (mkF m q Ls st))) : own_Go p e below P (T.setTop (mkF m pc Ls (.int x :: .int j :: .ref a :: st))) := by
  subst hq hj
  have F' := F
  obtain ⟨cl, A, rfl⟩ := F
  have hin := own_in (c := cl) hn rfl hi
  obtain ⟨T', h', X', e', W', st'⟩ := stZ X hx hZ eT A hin (g := mkF m pc Ls (.int x :: .int j :: .ref a :: st)) rfl rfl hd
  exact own_via (fun t => st' t) (K T' h' X' e' W' (F'.set W'))
theorem own_newA (X : Stand p l e R s m args below meth c T locs cells slots) (hx : p.tables.exec = Jvm.exec) {Z : State} {a0 : Array Value} {h : Heap} (hZ : Z.Warmed39 s.vm) {aty : ArrayType} {ty : FieldType} {n : Int32} {k cap : Nat} (hty : newarray.typeOf aty = ty) (w : (Cond.arrayClass ty).before a0 Z = true) (eT : T.heap = h) (hn : ¬ n < 0) (hk : n.toNatClampNeg = k) (hcap : k ≤ cap) (hb8 : cap * 8 ≤ 536870912) (hc : cells + 1 ≤ R.cells) (hl : slots + cap ≤ R.slots) (hd : decode c.code pc = .ok (.newarray aty, 2)) (hq : pc + 2 = q) (K : ∀ T' h' a, Stand p l e R s m args below meth c T' locs (cells + 1) (slots + cap) → T'.heap = h' → a = h.size → Ext h h' → own_A Z h' a ty (List.replicate k (defaultValue ty)) → own_Go p e below P (T'.setTop (mkF m q Ls (.ref a :: st)))) : own_Go p e below P (T.setTop (mkF m pc Ls (.int n :: st))) := by
  subst hq hty hk
  obtain ⟨T', h', cA, X', e', E', A', st'⟩ := newP X hx hZ w eT (g := mkF m pc Ls (.int n :: st)) rfl hd rfl hn hcap hb8 hc hl
  exact own_via (fun t => st' t) (K T' h' _ X' e' rfl E' ⟨_, A', by simp [newA]⟩)
theorem own_lswHit (X : Stand p l e R s m args below meth c T locs cells slots) (hx : p.tables.exec = Jvm.exec) {k : Int32} {dflt : Int} {prs : Array (Int × Int)} {len : Nat} {v : Int32} {b off : Int} (hk : k = v) (hd : decode c.code pc = .ok (.lookupswitch dflt prs, len)) (hs : (prs.toList.zip (prs.toList.drop 1)).all (fun (a, next) => a.1 < next.1) = true) (hf : prs.find? (·.1 == v.toInt) = some (b, off)) (ho : 0 ≤ (pc : Int) + off) (hp : ((pc : Int) + off).toNat = q) (K : own_Go p e below P (T.setTop (mkF m q Ls st))) : own_Go p e below P (T.setTop (mkF m pc Ls (.int k :: st))) := by
  subst hk hp; exact own_via (fun t => X.lookupswitchHit hx (g := mkF m pc Ls (.int k :: st)) rfl rfl hd hs hf ho t) K
theorem own_lswMiss (X : Stand p l e R s m args below meth c T locs cells slots) (hx : p.tables.exec = Jvm.exec) {k : Int32} {dflt : Int} {prs : Array (Int × Int)} {len : Nat} (hm : prs.find? (·.1 == k.toInt) = none) (hd : decode c.code pc = .ok (.lookupswitch dflt prs, len)) (hs : (prs.toList.zip (prs.toList.drop 1)).all (fun (a, next) => a.1 < next.1) = true) (ho : 0 ≤ (pc : Int) + dflt) (hp : ((pc : Int) + dflt).toNat = q) (K : own_Go p e below P (T.setTop (mkF m q Ls st))) : own_Go p e below P (T.setTop (mkF m pc Ls (.int k :: st))) := by
  subst hp; exact own_via (fun t => X.lookupswitchMiss hx (g := mkF m pc Ls (.int k :: st)) rfl rfl hd hs hm ho t) K
theorem own_instY (X : Stand p l e R s m args below meth c T locs cells slots) (hx : p.tables.exec = Jvm.exec) {Z : State} {a0 : Array Value} {h : Heap} (hZ : Z.Warmed39 s.vm) {own : String} {i : Nat} (hown : s.vm.findClass own = some m.cls) {a : Addr} {K0 : String} (w : (Cond.classLink own i K0).before a0 Z = true) (eT : T.heap = h) (F : Ins Z h a K0 true) (hd : decode c.code pc = .ok (.instanceof i, 3)) (hq : pc + 3 = q) (K : ∀ T', Stand p l e R s m args below meth c T' locs cells slots → T'.heap = h → own_Go p e below P (T'.setTop (mkF m q Ls (.int 1 :: st)))) : own_Go p e below P (T.setTop (mkF m pc Ls (.ref a :: st))) := by
  subst hq
  obtain ⟨T', X', e', st'⟩ := instY X hx hZ hown w eT F (g := mkF m pc Ls (.ref a :: st)) rfl rfl hd
  exact own_via (fun t => st' t) (K T' X' e')
theorem own_instN (X : Stand p l e R s m args below meth c T locs cells slots) (hx : p.tables.exec = Jvm.exec) {Z : State} {a0 : Array Value} {h : Heap} (hZ : Z.Warmed39 s.vm) {own : String} {i : Nat} (hown : s.vm.findClass own = some m.cls) {a : Addr} {K0 C : String} (w : (Cond.classLink own i K0).before a0 Z = true) (eT : T.heap = h) (E : Exa Z h a C) (F : ∃ c t, Z.vm.findClass C = some c ∧ Z.vm.findClass K0 = some t ∧ Z.vm.assignable c t = false) (hd : decode c.code pc = .ok (.instanceof i, 3)) (hq : pc + 3 = q) (K : ∀ T', Stand p l e R s m args below meth c T' locs cells slots → T'.heap = h → own_Go p e below P (T'.setTop (mkF m q Ls (.int 0 :: st)))) : own_Go p e below P (T.setTop (mkF m pc Ls (.ref a :: st))) := by
  subst hq
  obtain ⟨T', X', e', st'⟩ := instNo X hx hZ hown w eT E F (g := mkF m pc Ls (.ref a :: st)) rfl rfl hd
  exact own_via (fun t => st' t) (K T' X' e')
theorem own_cast (X : Stand p l e R s m args below meth c T locs cells slots) (hx : p.tables.exec = Jvm.exec) {Z : State} {a0 : Array Value} {h : Heap} (hZ : Z.Warmed39 s.vm) {own : String} {i : Nat} (hown : s.vm.findClass own = some m.cls) {a : Addr} {K0 : String} (w : (Cond.classLink own i K0).before a0 Z = true) (eT : T.heap = h) (F : Ins Z h a K0 true) (hd : decode c.code pc = .ok (.checkcast i, 3)) (hq : pc + 3 = q) (K : ∀ T', Stand p l e R s m args below meth c T' locs cells slots → T'.heap = h → own_Go p e below P (T'.setTop (mkF m q Ls (.ref a :: st)))) : own_Go p e below P (T.setTop (mkF m pc Ls (.ref a :: st))) := by
  subst hq
  obtain ⟨T', X', e', st'⟩ := castY X hx hZ hown w eT F (g := mkF m pc Ls (.ref a :: st)) rfl rfl hd
  exact own_via (fun t => st' t) (K T' X' e')
theorem own_inst0 (X : Stand p l e R s m args below meth c T locs cells slots) (hx : p.tables.exec = Jvm.exec) {i : Nat} (hd : decode c.code pc = .ok (.instanceof i, 3)) (hq : pc + 3 = q) (K : own_Go p e below P (T.setTop (mkF m q Ls (.int 0 :: st)))) : own_Go p e below P (T.setTop (mkF m pc Ls (.null :: st))) := by
  subst hq; exact own_via (fun t => X.instanceofNull hx (g := mkF m pc Ls (.null :: st)) rfl (rest := st) rfl hd t) K
theorem own_staKeep {Z : State} {h h' : Heap} {ws : List Addr} {C n d : String} {v : Value} (F : Sta Z h C n d v) (K : Keep h h' ws) (q : ∀ a ∈ ws, ∀ c : Cell, h[a]? = some c → c.vm.isStatics = false) : Sta Z h' C n d v := by
  obtain ⟨cf, i, k, f, st, cell, h1, h2, h3, h4, h5, h6, h7⟩ := F
  exact ⟨cf, i, k, f, st, cell, h1, h2, h3, h4, K.2.1 st cell h5 (fun hm => by rw [q st hm cell h5] at h6; cases h6), h6, h7⟩
theorem own_exaPlain {Z : State} {h : Heap} {a : Addr} {C : String} (E : Exa Z h a C) : ∀ c : Cell, h[a]? = some c → c.vm.isStatics = false := fun c hc => by
  obtain ⟨cell, k, h1, -, -, h4, -⟩ := E
  cases h1.symm.trans hc; exact h4
theorem own_A.plain {Z : State} {h : Heap} {a : Addr} {ty : FieldType} {vs : List Value} (F : own_A Z h a ty vs) : ∀ c : Cell, h[a]? = some c → c.vm.isStatics = false := fun c hc => by
  obtain ⟨cl, A, -⟩ := F
  cases A.1.symm.trans hc; exact A.plain
theorem own_callCB (X : Stand p l e R s m args below meth c T locs cells slots) (hx : p.tables.exec = Jvm.exec) {a : Addr} {Z : State} {a0 : Array Value} {h : Heap} {own : String} {index : Nat} {y : MethodName} {bytes : ByteArray} {maxL : Nat} {k1 k2 : Nat} {W : Nat} {argsL : List Value} {Qc : Option Value → Heap → List Loc → Prop} {ps : List FieldType} {r : Option FieldType} {st0 : List Value} (hZ : Z.Warmed39 s.vm) (hown : s.vm.findClass own = some m.cls) (hy1 : y.name = "<init>") (w1 : (Cond.methodLink own index y).before a0 Z = true) (w2 : (Cond.instanceMethod y).before a0 Z = true) (w4 : (Cond.code y bytes maxL none).before a0 Z = true) (hy : y.cls ≠ "java/lang/invoke/MethodHandle" ∧ y.cls ≠ "java/lang/invoke/VarHandle") (hK : Back l R p e below s args y 3 W (fun P aa => aa = (.ref a :: argsL).toArray ∧ P.U.heap = h ∧ P.cells + k1 ≤ R.cells ∧ P.slots + k2 ≤ R.slots) (fun P _ v B => ∃ L, Qc v B.U.heap L ∧ B.locs = P.locs ++ L ∧ B.cells = P.cells + k1 ∧ B.slots = P.slots + k2)) (hpd : parseMethodDescriptor y.desc = some ⟨ps, r⟩) (hlen : argsL.length = ps.length) (eT : T.heap = h) (hml : Ls.size = c.maxLocals) (hst : st0 = argsL.reverse ++ .ref a :: st) (hW : (st.map fun v => v.category).sum ≤ W) (hc : cells + k1 ≤ R.cells) (hs : slots + k2 ≤ R.slots) (hd : decode c.code pc = .ok (.invokespecial index, 3)) (hq : pc + 3 = q) (K : ∀ v T' L, Stand p l e R s m args below meth c T' (locs ++ L) (cells + k1) (slots + k2) → Qc v T'.heap L → own_Go p e below P (T'.setTop (mkF m q Ls (v.toList ++ st)))) : own_Go p e below P (T.setTop (mkF m pc Ls st0)) := by
  subst hq hst
  obtain ⟨v, _, ⟨T', L', k', n'⟩, -, X', ⟨Lc, hQ, l', y', z'⟩, st'⟩ := X.specialBack hx hy1 hown (mvT hZ w1) (mvT hZ w2) (mvT hZ w4) hy hK (g := mkF m pc Ls (argsL.reverse ++ .ref a :: st)) rfl hml (Steps.refl _) (a := a) (argsL := argsL) (rest := st) (lenOf hpd hlen) rfl (by show 2 * 0 + _ ≤ _; omega) hd (fun _ _ => ⟨rfl, eT, hc, hs⟩)
  dsimp only [Pt.U, Pt.locs, Pt.cells, Pt.slots] at X' l' y' z' st' hQ
  subst l' y' z'
  exact own_via (fun t => st'.trans) (K v T' Lc X' hQ)
theorem own_A.arv {Z : State} {h : Heap} {a : Addr} {ty : FieldType} {vs : List Value} {N : Int32} {d : Value} (F : own_A Z h a ty vs) (hN : N.toNatClampNeg = vs.length) (hn : ¬ N < 0) (hf : ∀ v ∈ vs, fits ty v = true) : ∃ k, Arv Z h a k ty N vs d := by
  obtain ⟨c, A, rfl⟩ := F
  rw [Array.length_toList] at hN
  have key : ∀ i, i < c.slots.size → c.slots.toList.getD i d = c.slots[i]! ∧ c.slots[i]? = some (c.slots.toList.getD i d) ∧ c.slots.toList.getD i d ∈ c.slots.toList := fun i hi => by
    have h1 : c.slots.toList[i]? = some c.slots[i] := by rw [Array.getElem?_toList]; exact Array.getElem?_eq_getElem hi
    have h2 : c.slots.toList.getD i d = c.slots[i] := by rw [List.getD_eq_getElem?_getD, h1]; rfl
    refine ⟨by rw [h2, getElem!_pos c.slots i hi], by rw [h2]; exact Array.getElem?_eq_getElem hi, ?_⟩
    rw [h2]; exact Array.getElem_mem_toList hi
  exact ⟨c.cls, c, A, rfl, hN.symm, hn, fun i hi => (key i hi).2.1, fun i hi => hf _ (key i hi).2.2⟩
theorem own_A.of_arv {Z : State} {h : Heap} {a : Addr} {k : ClassId} {ty : FieldType} {vs : List Value} {N : Int32} {d : Value} (F : Arv Z h a k ty N vs d) (hN : N.toNatClampNeg = vs.length) : own_A Z h a ty vs := by
  obtain ⟨c, A, -, S, -, H, -⟩ := F
  refine ⟨c, A, List.ext_getElem? fun i => ?_⟩
  rw [Array.getElem?_toList]
  by_cases hi : i < c.slots.size
  · have hj : i < vs.length := by rw [← hN, ← S]; exact hi
    rw [H i hi, List.getD_eq_getElem?_getD, List.getElem?_eq_getElem hj]; rfl
  · have hj : ¬ i < vs.length := by rw [← hN, ← S]; exact hi
    rw [Array.getElem?_eq_none (Nat.le_of_not_lt hi), List.getElem?_eq_none (Nat.le_of_not_lt hj)]
theorem own_callSP (X : Stand p l e R s m args below meth c T locs cells slots) (hx : p.tables.exec = Jvm.exec) {Z : State} {a0 : Array Value} {h : Heap} {own : String} {index : Nat} {y : MethodName} {bytes : ByteArray} {maxL : Nat} {ret : Option FieldType} {W : Nat} {argsL : List Value} {fr lo : Nat} {w : Value} {ps : List FieldType} {r : Option FieldType} {st0 : List Value} (hZ : Z.Warmed39 s.vm) (hown : s.vm.findClass own = some m.cls) (w1 : (Cond.methodLink own index y).before a0 Z = true) (w2 : (Cond.static y).before a0 Z = true) (w3 : (Cond.initialized y.cls).before a0 Z = true) (w4 : (Cond.code y bytes maxL ret).before a0 Z = true) (hy : y.cls ≠ "java/lang/invoke/MethodHandle" ∧ y.cls ≠ "java/lang/invoke/VarHandle") (hM : MetFree l y (head1 [Cond.code y bytes maxL ret] ({ frames := fr, cells := 0, slots := 0, locals := lo } : Room)) (fun aa U => aa = argsL.toArray ∧ Z.Warmed39 U.vm ∧ U.heap = h) (fun _ _ _ _ _ => True) (fun _ U o U' => ∃ v L, o = .returned v ∧ own_P w h v U'.heap L ∧ FrameEnd U o U' L 0 0)) (hpd : parseMethodDescriptor y.desc = some ⟨ps, r⟩) (hlen : argsL.length = ps.length) (eT : T.heap = h) (hml : Ls.size = c.maxLocals) (hst : st0 = argsL.reverse ++ st) (hW : (st.map fun v => v.category).sum ≤ W) (hf : fr + 1 ≤ R.frames) (hl : W + (maxL + 11) + lo ≤ R.locals) (hc : cells ≤ R.cells) (hs : slots ≤ R.slots) (hd : decode c.code pc = .ok (.invokestatic index, 3)) (hq : pc + 3 = q) (K : ∀ T', Stand p l e R s m args below meth c T' locs cells slots → T'.heap = h → own_Go p e below P (T'.setTop (mkF m q Ls (w :: st)))) : own_Go p e below P (T.setTop (mkF m pc Ls st0)) := by
  refine own_callS X hx hZ hown w1 w2 w3 w4 hy hM hpd hlen eT hml hst hW hf hl hc hs hd hq fun v T' L X' hQ => ?_
  obtain ⟨rfl, eh, rfl⟩ := hQ
  rw [List.append_nil] at X'
  exact K T' X' eh
theorem own_callVP (X : Stand p l e R s m args below meth c T locs cells slots) (hx : p.tables.exec = Jvm.exec) {a : Addr} {C : String} {z : MethodName} {Z : State} {a0 : Array Value} {h : Heap} {own : String} {index : Nat} {y : MethodName} {bytes : ByteArray} {maxL : Nat} {ret : Option FieldType} {W : Nat} {argsL : List Value} {fr lo : Nat} {w : Value} {ps : List FieldType} {r : Option FieldType} {st0 : List Value} (hZ : Z.Warmed39 s.vm) (hown : s.vm.findClass own = some m.cls) (w1 : (Cond.methodLink own index y).before a0 Z = true) (w2 : (Cond.declares y).before a0 Z = true) (w5 : (Cond.selects y.cls y y).before a0 Z = true) (w6 : (Cond.selects C y z).before a0 Z = true) (w7 : (Cond.instanceMethod z).before a0 Z = true) (w3 : (Cond.initialized z.cls).before a0 Z = true) (w4 : (Cond.code z bytes maxL ret).before a0 Z = true) (E : Exa Z h a C) (hy : y.cls ≠ "java/lang/invoke/MethodHandle" ∧ y.cls ≠ "java/lang/invoke/VarHandle") (hM : MetFree l z (head1 [Cond.code z bytes maxL ret] ({ frames := fr, cells := 0, slots := 0, locals := lo } : Room)) (fun aa U => aa = (.ref a :: argsL).toArray ∧ Z.Warmed39 U.vm ∧ U.heap = h) (fun _ _ _ _ _ => True) (fun _ U o U' => ∃ v L, o = .returned v ∧ own_P w h v U'.heap L ∧ FrameEnd U o U' L 0 0)) (hpd : parseMethodDescriptor y.desc = some ⟨ps, r⟩) (hlen : argsL.length = ps.length) (eT : T.heap = h) (hml : Ls.size = c.maxLocals) (hst : st0 = argsL.reverse ++ .ref a :: st) (hW : (st.map fun v => v.category).sum ≤ W) (hf : fr + 1 ≤ R.frames) (hl : W + (maxL + 11) + lo ≤ R.locals) (hc : cells ≤ R.cells) (hs : slots ≤ R.slots) (hd : decode c.code pc = .ok (.invokevirtual index, 3)) (hq : pc + 3 = q) (K : ∀ T', Stand p l e R s m args below meth c T' locs cells slots → T'.heap = h → own_Go p e below P (T'.setTop (mkF m q Ls (w :: st)))) : own_Go p e below P (T.setTop (mkF m pc Ls st0)) := by
  refine own_callV X hx hZ hown w1 w2 w5 w6 w7 w3 w4 E hy hM hpd hlen eT hml hst hW hf hl hc hs hd hq fun v T' L X' hQ => ?_
  obtain ⟨rfl, eh, rfl⟩ := hQ
  rw [List.append_nil] at X'
  exact K T' X' eh
theorem own_callCV (X : Stand p l e R s m args below meth c T locs cells slots) (hx : p.tables.exec = Jvm.exec) {a : Addr} {Z : State} {a0 : Array Value} {h : Heap} {own : String} {index : Nat} {y : MethodName} {bytes : ByteArray} {maxL : Nat} {W : Nat} {argsL : List Value} {fr lo : Nat} {ps : List FieldType} {r : Option FieldType} {st0 : List Value} (hZ : Z.Warmed39 s.vm) (hown : s.vm.findClass own = some m.cls) (hy1 : y.name = "<init>") (w1 : (Cond.methodLink own index y).before a0 Z = true) (w2 : (Cond.instanceMethod y).before a0 Z = true) (w3 : (Cond.initialized y.cls).before a0 Z = true) (w4 : (Cond.code y bytes maxL none).before a0 Z = true) (hy : y.cls ≠ "java/lang/invoke/MethodHandle" ∧ y.cls ≠ "java/lang/invoke/VarHandle") (hM : MetFree l y (head1 [Cond.code y bytes maxL none] ({ frames := fr, cells := 0, slots := 0, locals := lo } : Room)) (fun aa U => aa = (.ref a :: argsL).toArray ∧ Z.Warmed39 U.vm ∧ U.heap = h) (fun _ _ _ _ _ => True) (fun _ U o U' => ∃ v L, o = .returned v ∧ own_V h v U'.heap L ∧ FrameEnd U o U' L 0 0)) (hpd : parseMethodDescriptor y.desc = some ⟨ps, r⟩) (hlen : argsL.length = ps.length) (eT : T.heap = h) (hml : Ls.size = c.maxLocals) (hst : st0 = argsL.reverse ++ .ref a :: st) (hW : (st.map fun v => v.category).sum ≤ W) (hf : fr + 1 ≤ R.frames) (hl : W + (maxL + 11) + lo ≤ R.locals) (hc : cells ≤ R.cells) (hs : slots ≤ R.slots) (hd : decode c.code pc = .ok (.invokespecial index, 3)) (hq : pc + 3 = q) (K : ∀ T', Stand p l e R s m args below meth c T' locs cells slots → T'.heap = h → own_Go p e below P (T'.setTop (mkF m q Ls st))) : own_Go p e below P (T.setTop (mkF m pc Ls st0)) := by
  refine own_callC X hx hZ hown hy1 w1 w2 w3 w4 hy hM hpd hlen eT hml hst hW hf hl hc hs hd hq fun v T' L X' hQ => ?_
  obtain ⟨rfl, eh, rfl⟩ := hQ
  rw [List.append_nil] at X'
  exact K T' X' eh
theorem own_callSV (X : Stand p l e R s m args below meth c T locs cells slots) (hx : p.tables.exec = Jvm.exec) {Z : State} {a0 : Array Value} {h : Heap} {own : String} {index : Nat} {y : MethodName} {bytes : ByteArray} {maxL : Nat} {ret : Option FieldType} {W : Nat} {argsL : List Value} {fr lo : Nat} {ps : List FieldType} {r : Option FieldType} {st0 : List Value} (hZ : Z.Warmed39 s.vm) (hown : s.vm.findClass own = some m.cls) (w1 : (Cond.methodLink own index y).before a0 Z = true) (w2 : (Cond.static y).before a0 Z = true) (w3 : (Cond.initialized y.cls).before a0 Z = true) (w4 : (Cond.code y bytes maxL ret).before a0 Z = true) (hy : y.cls ≠ "java/lang/invoke/MethodHandle" ∧ y.cls ≠ "java/lang/invoke/VarHandle") (hM : MetFree l y (head1 [Cond.code y bytes maxL ret] ({ frames := fr, cells := 0, slots := 0, locals := lo } : Room)) (fun aa U => aa = argsL.toArray ∧ Z.Warmed39 U.vm ∧ U.heap = h) (fun _ _ _ _ _ => True) (fun _ U o U' => ∃ v L, o = .returned v ∧ own_V h v U'.heap L ∧ FrameEnd U o U' L 0 0)) (hpd : parseMethodDescriptor y.desc = some ⟨ps, r⟩) (hlen : argsL.length = ps.length) (eT : T.heap = h) (hml : Ls.size = c.maxLocals) (hst : st0 = argsL.reverse ++ st) (hW : (st.map fun v => v.category).sum ≤ W) (hf : fr + 1 ≤ R.frames) (hl : W + (maxL + 11) + lo ≤ R.locals) (hc : cells ≤ R.cells) (hs : slots ≤ R.slots) (hd : decode c.code pc = .ok (.invokestatic index, 3)) (hq : pc + 3 = q) (K : ∀ T', Stand p l e R s m args below meth c T' locs cells slots → T'.heap = h → own_Go p e below P (T'.setTop (mkF m q Ls st))) : own_Go p e below P (T.setTop (mkF m pc Ls st0)) := by
  refine own_callS X hx hZ hown w1 w2 w3 w4 hy hM hpd hlen eT hml hst hW hf hl hc hs hd hq fun v T' L X' hQ => ?_
  obtain ⟨rfl, eh, rfl⟩ := hQ
  rw [List.append_nil] at X'
  exact K T' X' eh
theorem own_callVV (X : Stand p l e R s m args below meth c T locs cells slots) (hx : p.tables.exec = Jvm.exec) {a : Addr} {C : String} {z : MethodName} {Z : State} {a0 : Array Value} {h : Heap} {own : String} {index : Nat} {y : MethodName} {bytes : ByteArray} {maxL : Nat} {ret : Option FieldType} {W : Nat} {argsL : List Value} {fr lo : Nat} {ps : List FieldType} {r : Option FieldType} {st0 : List Value} (hZ : Z.Warmed39 s.vm) (hown : s.vm.findClass own = some m.cls) (w1 : (Cond.methodLink own index y).before a0 Z = true) (w2 : (Cond.declares y).before a0 Z = true) (w5 : (Cond.selects y.cls y y).before a0 Z = true) (w6 : (Cond.selects C y z).before a0 Z = true) (w7 : (Cond.instanceMethod z).before a0 Z = true) (w3 : (Cond.initialized z.cls).before a0 Z = true) (w4 : (Cond.code z bytes maxL ret).before a0 Z = true) (E : Exa Z h a C) (hy : y.cls ≠ "java/lang/invoke/MethodHandle" ∧ y.cls ≠ "java/lang/invoke/VarHandle") (hM : MetFree l z (head1 [Cond.code z bytes maxL ret] ({ frames := fr, cells := 0, slots := 0, locals := lo } : Room)) (fun aa U => aa = (.ref a :: argsL).toArray ∧ Z.Warmed39 U.vm ∧ U.heap = h) (fun _ _ _ _ _ => True) (fun _ U o U' => ∃ v L, o = .returned v ∧ own_V h v U'.heap L ∧ FrameEnd U o U' L 0 0)) (hpd : parseMethodDescriptor y.desc = some ⟨ps, r⟩) (hlen : argsL.length = ps.length) (eT : T.heap = h) (hml : Ls.size = c.maxLocals) (hst : st0 = argsL.reverse ++ .ref a :: st) (hW : (st.map fun v => v.category).sum ≤ W) (hf : fr + 1 ≤ R.frames) (hl : W + (maxL + 11) + lo ≤ R.locals) (hc : cells ≤ R.cells) (hs : slots ≤ R.slots) (hd : decode c.code pc = .ok (.invokevirtual index, 3)) (hq : pc + 3 = q) (K : ∀ T', Stand p l e R s m args below meth c T' locs cells slots → T'.heap = h → own_Go p e below P (T'.setTop (mkF m q Ls st))) : own_Go p e below P (T.setTop (mkF m pc Ls st0)) := by
  refine own_callV X hx hZ hown w1 w2 w5 w6 w7 w3 w4 E hy hM hpd hlen eT hml hst hW hf hl hc hs hd hq fun v T' L X' hQ => ?_
  obtain ⟨rfl, eh, rfl⟩ := hQ
  rw [List.append_nil] at X'
  exact K T' X' eh
end OwnKit
def own_z_cat (o0 o1 o2 o3 o4 j : Int32) : Int32 := if j = 0 then o0 else if j = 1 then o1 else if j = 2 then o2 else if j = 3 then o3 else if j = 4 then o4 else 0
def own_z_up (j i v w : Int32) : Int32 := if j = i then v else w
def own_z_r5 (j : Int32) : Prop := j = 0 ∨ j = 1 ∨ j = 2 ∨ j = 3 ∨ j = 4
instance (j : Int32) : Decidable (own_z_r5 j) := by unfold own_z_r5; exact inferInstance
def own_z_P (a b c d e : Int32) : Prop := (own_z_r5 a ∧ own_z_r5 b ∧ own_z_r5 c ∧ own_z_r5 d ∧ own_z_r5 e) ∧ (a ≠ b ∧ a ≠ c ∧ a ≠ d ∧ a ≠ e ∧ b ≠ c ∧ b ≠ d ∧ b ≠ e ∧ c ≠ d ∧ c ≠ e ∧ d ≠ e)
instance (a b c d e : Int32) : Decidable (own_z_P a b c d e) := by unfold own_z_P; exact inferInstance
def own_z_LH (lo hi : Int32) : Prop := (lo = 0 ∧ hi = 0) ∨ (lo = 0 ∧ hi = 1) ∨ (lo = 0 ∧ hi = 2) ∨ (lo = 0 ∧ hi = 3) ∨ (lo = 0 ∧ hi = 4) ∨ (lo = 1 ∧ hi = 1) ∨ (lo = 1 ∧ hi = 2) ∨ (lo = 1 ∧ hi = 3) ∨ (lo = 1 ∧ hi = 4) ∨ (lo = 2 ∧ hi = 2) ∨ (lo = 2 ∧ hi = 3) ∨ (lo = 2 ∧ hi = 4) ∨ (lo = 3 ∧ hi = 3) ∨ (lo = 3 ∧ hi = 4) ∨ (lo = 4 ∧ hi = 4)
def own_z_bi (lo hi q k c w : Int32) : Int32 := if lo ≤ q then if q ≤ hi then (if k = c then 1 else w) else w else w
def own_z_b (lo hi k0 k1 k2 k3 k4 c : Int32) : Int32 := (own_z_bi lo hi 4 k4 c (own_z_bi lo hi 3 k3 c (own_z_bi lo hi 2 k2 c (own_z_bi lo hi 1 k1 c (own_z_bi lo hi 0 k0 c 0)))))
def own_z_y (u lo hi q k : Int32) : Int32 := if lo ≤ q ∧ q ≤ hi then k else u
def own_z_fn (tk f : Int32) : Int32 := if tk = 0 then (f + 1) % 5 else f
def own_z_yn (tk f q ct y : Int32) : Int32 := if tk = 0 then own_z_up f q ct y else y
def own_z_ct1 (hi o0 o1 o2 o3 o4 : Int32) : Int32 := own_z_cat o0 o1 o2 o3 o4 ((hi + 1) % 5)
def own_z_tk1 (lo hi k0 k1 k2 k3 k4 o0 o1 o2 o3 o4 : Int32) : Int32 := own_z_b lo hi k0 k1 k2 k3 k4 (own_z_ct1 hi o0 o1 o2 o3 o4)
def own_z_f1 (lo hi k0 k1 k2 k3 k4 o0 o1 o2 o3 o4 : Int32) : Int32 := own_z_fn (own_z_tk1 lo hi k0 k1 k2 k3 k4 o0 o1 o2 o3 o4) ((hi + 1) % 5)
def own_z_y1_0 (u lo hi k0 k1 k2 k3 k4 o0 o1 o2 o3 o4 : Int32) : Int32 := own_z_yn (own_z_tk1 lo hi k0 k1 k2 k3 k4 o0 o1 o2 o3 o4) ((hi + 1) % 5) 0 (own_z_ct1 hi o0 o1 o2 o3 o4) (own_z_y u lo hi 0 k0)
def own_z_y1_1 (u lo hi k0 k1 k2 k3 k4 o0 o1 o2 o3 o4 : Int32) : Int32 := own_z_yn (own_z_tk1 lo hi k0 k1 k2 k3 k4 o0 o1 o2 o3 o4) ((hi + 1) % 5) 1 (own_z_ct1 hi o0 o1 o2 o3 o4) (own_z_y u lo hi 1 k1)
def own_z_y1_2 (u lo hi k0 k1 k2 k3 k4 o0 o1 o2 o3 o4 : Int32) : Int32 := own_z_yn (own_z_tk1 lo hi k0 k1 k2 k3 k4 o0 o1 o2 o3 o4) ((hi + 1) % 5) 2 (own_z_ct1 hi o0 o1 o2 o3 o4) (own_z_y u lo hi 2 k2)
def own_z_y1_3 (u lo hi k0 k1 k2 k3 k4 o0 o1 o2 o3 o4 : Int32) : Int32 := own_z_yn (own_z_tk1 lo hi k0 k1 k2 k3 k4 o0 o1 o2 o3 o4) ((hi + 1) % 5) 3 (own_z_ct1 hi o0 o1 o2 o3 o4) (own_z_y u lo hi 3 k3)
def own_z_y1_4 (u lo hi k0 k1 k2 k3 k4 o0 o1 o2 o3 o4 : Int32) : Int32 := own_z_yn (own_z_tk1 lo hi k0 k1 k2 k3 k4 o0 o1 o2 o3 o4) ((hi + 1) % 5) 4 (own_z_ct1 hi o0 o1 o2 o3 o4) (own_z_y u lo hi 4 k4)
def own_z_ct2 (hi o0 o1 o2 o3 o4 : Int32) : Int32 := own_z_cat o0 o1 o2 o3 o4 ((hi + 2) % 5)
def own_z_tk2 (lo hi k0 k1 k2 k3 k4 o0 o1 o2 o3 o4 : Int32) : Int32 := own_z_b lo hi k0 k1 k2 k3 k4 (own_z_ct2 hi o0 o1 o2 o3 o4)
def own_z_f2 (lo hi k0 k1 k2 k3 k4 o0 o1 o2 o3 o4 : Int32) : Int32 := own_z_fn (own_z_tk2 lo hi k0 k1 k2 k3 k4 o0 o1 o2 o3 o4) (own_z_f1 lo hi k0 k1 k2 k3 k4 o0 o1 o2 o3 o4)
def own_z_y2_0 (u lo hi k0 k1 k2 k3 k4 o0 o1 o2 o3 o4 : Int32) : Int32 := own_z_yn (own_z_tk2 lo hi k0 k1 k2 k3 k4 o0 o1 o2 o3 o4) (own_z_f1 lo hi k0 k1 k2 k3 k4 o0 o1 o2 o3 o4) 0 (own_z_ct2 hi o0 o1 o2 o3 o4) (own_z_y1_0 u lo hi k0 k1 k2 k3 k4 o0 o1 o2 o3 o4)
def own_z_y2_1 (u lo hi k0 k1 k2 k3 k4 o0 o1 o2 o3 o4 : Int32) : Int32 := own_z_yn (own_z_tk2 lo hi k0 k1 k2 k3 k4 o0 o1 o2 o3 o4) (own_z_f1 lo hi k0 k1 k2 k3 k4 o0 o1 o2 o3 o4) 1 (own_z_ct2 hi o0 o1 o2 o3 o4) (own_z_y1_1 u lo hi k0 k1 k2 k3 k4 o0 o1 o2 o3 o4)
def own_z_y2_2 (u lo hi k0 k1 k2 k3 k4 o0 o1 o2 o3 o4 : Int32) : Int32 := own_z_yn (own_z_tk2 lo hi k0 k1 k2 k3 k4 o0 o1 o2 o3 o4) (own_z_f1 lo hi k0 k1 k2 k3 k4 o0 o1 o2 o3 o4) 2 (own_z_ct2 hi o0 o1 o2 o3 o4) (own_z_y1_2 u lo hi k0 k1 k2 k3 k4 o0 o1 o2 o3 o4)
def own_z_y2_3 (u lo hi k0 k1 k2 k3 k4 o0 o1 o2 o3 o4 : Int32) : Int32 := own_z_yn (own_z_tk2 lo hi k0 k1 k2 k3 k4 o0 o1 o2 o3 o4) (own_z_f1 lo hi k0 k1 k2 k3 k4 o0 o1 o2 o3 o4) 3 (own_z_ct2 hi o0 o1 o2 o3 o4) (own_z_y1_3 u lo hi k0 k1 k2 k3 k4 o0 o1 o2 o3 o4)
def own_z_y2_4 (u lo hi k0 k1 k2 k3 k4 o0 o1 o2 o3 o4 : Int32) : Int32 := own_z_yn (own_z_tk2 lo hi k0 k1 k2 k3 k4 o0 o1 o2 o3 o4) (own_z_f1 lo hi k0 k1 k2 k3 k4 o0 o1 o2 o3 o4) 4 (own_z_ct2 hi o0 o1 o2 o3 o4) (own_z_y1_4 u lo hi k0 k1 k2 k3 k4 o0 o1 o2 o3 o4)
def own_z_ct3 (hi o0 o1 o2 o3 o4 : Int32) : Int32 := own_z_cat o0 o1 o2 o3 o4 ((hi + 3) % 5)
def own_z_tk3 (lo hi k0 k1 k2 k3 k4 o0 o1 o2 o3 o4 : Int32) : Int32 := own_z_b lo hi k0 k1 k2 k3 k4 (own_z_ct3 hi o0 o1 o2 o3 o4)
def own_z_f3 (lo hi k0 k1 k2 k3 k4 o0 o1 o2 o3 o4 : Int32) : Int32 := own_z_fn (own_z_tk3 lo hi k0 k1 k2 k3 k4 o0 o1 o2 o3 o4) (own_z_f2 lo hi k0 k1 k2 k3 k4 o0 o1 o2 o3 o4)
def own_z_y3_0 (u lo hi k0 k1 k2 k3 k4 o0 o1 o2 o3 o4 : Int32) : Int32 := own_z_yn (own_z_tk3 lo hi k0 k1 k2 k3 k4 o0 o1 o2 o3 o4) (own_z_f2 lo hi k0 k1 k2 k3 k4 o0 o1 o2 o3 o4) 0 (own_z_ct3 hi o0 o1 o2 o3 o4) (own_z_y2_0 u lo hi k0 k1 k2 k3 k4 o0 o1 o2 o3 o4)
def own_z_y3_1 (u lo hi k0 k1 k2 k3 k4 o0 o1 o2 o3 o4 : Int32) : Int32 := own_z_yn (own_z_tk3 lo hi k0 k1 k2 k3 k4 o0 o1 o2 o3 o4) (own_z_f2 lo hi k0 k1 k2 k3 k4 o0 o1 o2 o3 o4) 1 (own_z_ct3 hi o0 o1 o2 o3 o4) (own_z_y2_1 u lo hi k0 k1 k2 k3 k4 o0 o1 o2 o3 o4)
def own_z_y3_2 (u lo hi k0 k1 k2 k3 k4 o0 o1 o2 o3 o4 : Int32) : Int32 := own_z_yn (own_z_tk3 lo hi k0 k1 k2 k3 k4 o0 o1 o2 o3 o4) (own_z_f2 lo hi k0 k1 k2 k3 k4 o0 o1 o2 o3 o4) 2 (own_z_ct3 hi o0 o1 o2 o3 o4) (own_z_y2_2 u lo hi k0 k1 k2 k3 k4 o0 o1 o2 o3 o4)
def own_z_y3_3 (u lo hi k0 k1 k2 k3 k4 o0 o1 o2 o3 o4 : Int32) : Int32 := own_z_yn (own_z_tk3 lo hi k0 k1 k2 k3 k4 o0 o1 o2 o3 o4) (own_z_f2 lo hi k0 k1 k2 k3 k4 o0 o1 o2 o3 o4) 3 (own_z_ct3 hi o0 o1 o2 o3 o4) (own_z_y2_3 u lo hi k0 k1 k2 k3 k4 o0 o1 o2 o3 o4)
def own_z_y3_4 (u lo hi k0 k1 k2 k3 k4 o0 o1 o2 o3 o4 : Int32) : Int32 := own_z_yn (own_z_tk3 lo hi k0 k1 k2 k3 k4 o0 o1 o2 o3 o4) (own_z_f2 lo hi k0 k1 k2 k3 k4 o0 o1 o2 o3 o4) 4 (own_z_ct3 hi o0 o1 o2 o3 o4) (own_z_y2_4 u lo hi k0 k1 k2 k3 k4 o0 o1 o2 o3 o4)
def own_z_ct4 (hi o0 o1 o2 o3 o4 : Int32) : Int32 := own_z_cat o0 o1 o2 o3 o4 ((hi + 4) % 5)
def own_z_tk4 (lo hi k0 k1 k2 k3 k4 o0 o1 o2 o3 o4 : Int32) : Int32 := own_z_b lo hi k0 k1 k2 k3 k4 (own_z_ct4 hi o0 o1 o2 o3 o4)
def own_z_f4 (lo hi k0 k1 k2 k3 k4 o0 o1 o2 o3 o4 : Int32) : Int32 := own_z_fn (own_z_tk4 lo hi k0 k1 k2 k3 k4 o0 o1 o2 o3 o4) (own_z_f3 lo hi k0 k1 k2 k3 k4 o0 o1 o2 o3 o4)
def own_z_y4_0 (u lo hi k0 k1 k2 k3 k4 o0 o1 o2 o3 o4 : Int32) : Int32 := own_z_yn (own_z_tk4 lo hi k0 k1 k2 k3 k4 o0 o1 o2 o3 o4) (own_z_f3 lo hi k0 k1 k2 k3 k4 o0 o1 o2 o3 o4) 0 (own_z_ct4 hi o0 o1 o2 o3 o4) (own_z_y3_0 u lo hi k0 k1 k2 k3 k4 o0 o1 o2 o3 o4)
def own_z_y4_1 (u lo hi k0 k1 k2 k3 k4 o0 o1 o2 o3 o4 : Int32) : Int32 := own_z_yn (own_z_tk4 lo hi k0 k1 k2 k3 k4 o0 o1 o2 o3 o4) (own_z_f3 lo hi k0 k1 k2 k3 k4 o0 o1 o2 o3 o4) 1 (own_z_ct4 hi o0 o1 o2 o3 o4) (own_z_y3_1 u lo hi k0 k1 k2 k3 k4 o0 o1 o2 o3 o4)
def own_z_y4_2 (u lo hi k0 k1 k2 k3 k4 o0 o1 o2 o3 o4 : Int32) : Int32 := own_z_yn (own_z_tk4 lo hi k0 k1 k2 k3 k4 o0 o1 o2 o3 o4) (own_z_f3 lo hi k0 k1 k2 k3 k4 o0 o1 o2 o3 o4) 2 (own_z_ct4 hi o0 o1 o2 o3 o4) (own_z_y3_2 u lo hi k0 k1 k2 k3 k4 o0 o1 o2 o3 o4)
def own_z_y4_3 (u lo hi k0 k1 k2 k3 k4 o0 o1 o2 o3 o4 : Int32) : Int32 := own_z_yn (own_z_tk4 lo hi k0 k1 k2 k3 k4 o0 o1 o2 o3 o4) (own_z_f3 lo hi k0 k1 k2 k3 k4 o0 o1 o2 o3 o4) 3 (own_z_ct4 hi o0 o1 o2 o3 o4) (own_z_y3_3 u lo hi k0 k1 k2 k3 k4 o0 o1 o2 o3 o4)
def own_z_y4_4 (u lo hi k0 k1 k2 k3 k4 o0 o1 o2 o3 o4 : Int32) : Int32 := own_z_yn (own_z_tk4 lo hi k0 k1 k2 k3 k4 o0 o1 o2 o3 o4) (own_z_f3 lo hi k0 k1 k2 k3 k4 o0 o1 o2 o3 o4) 4 (own_z_ct4 hi o0 o1 o2 o3 o4) (own_z_y3_4 u lo hi k0 k1 k2 k3 k4 o0 o1 o2 o3 o4)
def own_z_ct5 (hi o0 o1 o2 o3 o4 : Int32) : Int32 := own_z_cat o0 o1 o2 o3 o4 ((hi + 5) % 5)
def own_z_tk5 (lo hi k0 k1 k2 k3 k4 o0 o1 o2 o3 o4 : Int32) : Int32 := own_z_b lo hi k0 k1 k2 k3 k4 (own_z_ct5 hi o0 o1 o2 o3 o4)
def own_z_f5 (lo hi k0 k1 k2 k3 k4 o0 o1 o2 o3 o4 : Int32) : Int32 := own_z_fn (own_z_tk5 lo hi k0 k1 k2 k3 k4 o0 o1 o2 o3 o4) (own_z_f4 lo hi k0 k1 k2 k3 k4 o0 o1 o2 o3 o4)
def own_z_y5_0 (u lo hi k0 k1 k2 k3 k4 o0 o1 o2 o3 o4 : Int32) : Int32 := own_z_yn (own_z_tk5 lo hi k0 k1 k2 k3 k4 o0 o1 o2 o3 o4) (own_z_f4 lo hi k0 k1 k2 k3 k4 o0 o1 o2 o3 o4) 0 (own_z_ct5 hi o0 o1 o2 o3 o4) (own_z_y4_0 u lo hi k0 k1 k2 k3 k4 o0 o1 o2 o3 o4)
def own_z_y5_1 (u lo hi k0 k1 k2 k3 k4 o0 o1 o2 o3 o4 : Int32) : Int32 := own_z_yn (own_z_tk5 lo hi k0 k1 k2 k3 k4 o0 o1 o2 o3 o4) (own_z_f4 lo hi k0 k1 k2 k3 k4 o0 o1 o2 o3 o4) 1 (own_z_ct5 hi o0 o1 o2 o3 o4) (own_z_y4_1 u lo hi k0 k1 k2 k3 k4 o0 o1 o2 o3 o4)
def own_z_y5_2 (u lo hi k0 k1 k2 k3 k4 o0 o1 o2 o3 o4 : Int32) : Int32 := own_z_yn (own_z_tk5 lo hi k0 k1 k2 k3 k4 o0 o1 o2 o3 o4) (own_z_f4 lo hi k0 k1 k2 k3 k4 o0 o1 o2 o3 o4) 2 (own_z_ct5 hi o0 o1 o2 o3 o4) (own_z_y4_2 u lo hi k0 k1 k2 k3 k4 o0 o1 o2 o3 o4)
def own_z_y5_3 (u lo hi k0 k1 k2 k3 k4 o0 o1 o2 o3 o4 : Int32) : Int32 := own_z_yn (own_z_tk5 lo hi k0 k1 k2 k3 k4 o0 o1 o2 o3 o4) (own_z_f4 lo hi k0 k1 k2 k3 k4 o0 o1 o2 o3 o4) 3 (own_z_ct5 hi o0 o1 o2 o3 o4) (own_z_y4_3 u lo hi k0 k1 k2 k3 k4 o0 o1 o2 o3 o4)
def own_z_y5_4 (u lo hi k0 k1 k2 k3 k4 o0 o1 o2 o3 o4 : Int32) : Int32 := own_z_yn (own_z_tk5 lo hi k0 k1 k2 k3 k4 o0 o1 o2 o3 o4) (own_z_f4 lo hi k0 k1 k2 k3 k4 o0 o1 o2 o3 o4) 4 (own_z_ct5 hi o0 o1 o2 o3 o4) (own_z_y4_4 u lo hi k0 k1 k2 k3 k4 o0 o1 o2 o3 o4)
def own_z_off (x hi : Int32) : Int32 := (x - hi - 1 + 10) % 5
def own_z_abs (lo hi s0 s1 s2 s3 s4 : Int32) : Prop := own_z_P (own_z_y5_0 5 lo hi s0 s1 s2 s3 s4 0 1 2 3 4) (own_z_y5_1 5 lo hi s0 s1 s2 s3 s4 0 1 2 3 4) (own_z_y5_2 5 lo hi s0 s1 s2 s3 s4 0 1 2 3 4) (own_z_y5_3 5 lo hi s0 s1 s2 s3 s4 0 1 2 3 4) (own_z_y5_4 5 lo hi s0 s1 s2 s3 s4 0 1 2 3 4) ∧ ((lo ≤ 0 → 0 ≤ hi → own_z_y5_0 5 lo hi s0 s1 s2 s3 s4 0 1 2 3 4 = s0) ∧ (lo ≤ 1 → 1 ≤ hi → own_z_y5_1 5 lo hi s0 s1 s2 s3 s4 0 1 2 3 4 = s1) ∧ (lo ≤ 2 → 2 ≤ hi → own_z_y5_2 5 lo hi s0 s1 s2 s3 s4 0 1 2 3 4 = s2) ∧ (lo ≤ 3 → 3 ≤ hi → own_z_y5_3 5 lo hi s0 s1 s2 s3 s4 0 1 2 3 4 = s3) ∧ (lo ≤ 4 → 4 ≤ hi → own_z_y5_4 5 lo hi s0 s1 s2 s3 s4 0 1 2 3 4 = s4)) ∧ (((1 : Int32) < 5 - (hi - lo + 1) → own_z_off (own_z_cat (own_z_y5_0 5 lo hi s0 s1 s2 s3 s4 0 1 2 3 4) (own_z_y5_1 5 lo hi s0 s1 s2 s3 s4 0 1 2 3 4) (own_z_y5_2 5 lo hi s0 s1 s2 s3 s4 0 1 2 3 4) (own_z_y5_3 5 lo hi s0 s1 s2 s3 s4 0 1 2 3 4) (own_z_y5_4 5 lo hi s0 s1 s2 s3 s4 0 1 2 3 4) ((hi + 1 + 0) % 5)) hi < own_z_off (own_z_cat (own_z_y5_0 5 lo hi s0 s1 s2 s3 s4 0 1 2 3 4) (own_z_y5_1 5 lo hi s0 s1 s2 s3 s4 0 1 2 3 4) (own_z_y5_2 5 lo hi s0 s1 s2 s3 s4 0 1 2 3 4) (own_z_y5_3 5 lo hi s0 s1 s2 s3 s4 0 1 2 3 4) (own_z_y5_4 5 lo hi s0 s1 s2 s3 s4 0 1 2 3 4) ((hi + 2 + 0) % 5)) hi) ∧ ((2 : Int32) < 5 - (hi - lo + 1) → own_z_off (own_z_cat (own_z_y5_0 5 lo hi s0 s1 s2 s3 s4 0 1 2 3 4) (own_z_y5_1 5 lo hi s0 s1 s2 s3 s4 0 1 2 3 4) (own_z_y5_2 5 lo hi s0 s1 s2 s3 s4 0 1 2 3 4) (own_z_y5_3 5 lo hi s0 s1 s2 s3 s4 0 1 2 3 4) (own_z_y5_4 5 lo hi s0 s1 s2 s3 s4 0 1 2 3 4) ((hi + 1 + 1) % 5)) hi < own_z_off (own_z_cat (own_z_y5_0 5 lo hi s0 s1 s2 s3 s4 0 1 2 3 4) (own_z_y5_1 5 lo hi s0 s1 s2 s3 s4 0 1 2 3 4) (own_z_y5_2 5 lo hi s0 s1 s2 s3 s4 0 1 2 3 4) (own_z_y5_3 5 lo hi s0 s1 s2 s3 s4 0 1 2 3 4) (own_z_y5_4 5 lo hi s0 s1 s2 s3 s4 0 1 2 3 4) ((hi + 2 + 1) % 5)) hi) ∧ ((3 : Int32) < 5 - (hi - lo + 1) → own_z_off (own_z_cat (own_z_y5_0 5 lo hi s0 s1 s2 s3 s4 0 1 2 3 4) (own_z_y5_1 5 lo hi s0 s1 s2 s3 s4 0 1 2 3 4) (own_z_y5_2 5 lo hi s0 s1 s2 s3 s4 0 1 2 3 4) (own_z_y5_3 5 lo hi s0 s1 s2 s3 s4 0 1 2 3 4) (own_z_y5_4 5 lo hi s0 s1 s2 s3 s4 0 1 2 3 4) ((hi + 1 + 2) % 5)) hi < own_z_off (own_z_cat (own_z_y5_0 5 lo hi s0 s1 s2 s3 s4 0 1 2 3 4) (own_z_y5_1 5 lo hi s0 s1 s2 s3 s4 0 1 2 3 4) (own_z_y5_2 5 lo hi s0 s1 s2 s3 s4 0 1 2 3 4) (own_z_y5_3 5 lo hi s0 s1 s2 s3 s4 0 1 2 3 4) (own_z_y5_4 5 lo hi s0 s1 s2 s3 s4 0 1 2 3 4) ((hi + 2 + 2) % 5)) hi) ∧ ((4 : Int32) < 5 - (hi - lo + 1) → own_z_off (own_z_cat (own_z_y5_0 5 lo hi s0 s1 s2 s3 s4 0 1 2 3 4) (own_z_y5_1 5 lo hi s0 s1 s2 s3 s4 0 1 2 3 4) (own_z_y5_2 5 lo hi s0 s1 s2 s3 s4 0 1 2 3 4) (own_z_y5_3 5 lo hi s0 s1 s2 s3 s4 0 1 2 3 4) (own_z_y5_4 5 lo hi s0 s1 s2 s3 s4 0 1 2 3 4) ((hi + 1 + 3) % 5)) hi < own_z_off (own_z_cat (own_z_y5_0 5 lo hi s0 s1 s2 s3 s4 0 1 2 3 4) (own_z_y5_1 5 lo hi s0 s1 s2 s3 s4 0 1 2 3 4) (own_z_y5_2 5 lo hi s0 s1 s2 s3 s4 0 1 2 3 4) (own_z_y5_3 5 lo hi s0 s1 s2 s3 s4 0 1 2 3 4) (own_z_y5_4 5 lo hi s0 s1 s2 s3 s4 0 1 2 3 4) ((hi + 2 + 3) % 5)) hi))
instance (lo hi s0 s1 s2 s3 s4 : Int32) : Decidable (own_z_abs lo hi s0 s1 s2 s3 s4) := by unfold own_z_abs; exact inferInstance
theorem own_z_fin {j : Int32} (h : own_z_r5 j) : ∃ i : Fin 5, j = Int32.ofNat i.val := by
  rcases h with rfl | rfl | rfl | rfl | rfl
  · exact ⟨0, rfl⟩
  · exact ⟨1, rfl⟩
  · exact ⟨2, rfl⟩
  · exact ⟨3, rfl⟩
  · exact ⟨4, rfl⟩
def own_z_fs : List Int32 := [0, 1, 2, 3, 4]
def own_z_chk (Q : Int32 → Int32 → Int32 → Int32 → Int32 → Bool) : Bool := own_z_fs.all fun a => own_z_fs.all fun b => (a == b) || own_z_fs.all fun c => (a == c) || ((b == c) || own_z_fs.all fun d => (a == d) || ((b == d) || ((c == d) || own_z_fs.all fun e => (a == e) || ((b == e) || ((c == e) || ((d == e) || Q a b c d e))))))
theorem own_z_ball {f : Int32 → Bool} {j : Int32} (h : own_z_fs.all f = true) (hj : own_z_r5 j) : f j = true := List.all_eq_true.mp h j (by rcases hj with rfl | rfl | rfl | rfl | rfl <;> decide)
theorem own_z_bor {a b : Int32} {x : Bool} (h : ((a == b) || x) = true) (n : a ≠ b) : x = true := by
  rw [beq_false_of_ne n, Bool.false_or] at h; exact h
theorem own_z_pind (Q : Int32 → Int32 → Int32 → Int32 → Int32 → Prop) [inst : ∀ a b c d e, Decidable (Q a b c d e)] (h : own_z_chk (fun a b c d e => decide (Q a b c d e)) = true) {a b c d e : Int32} (hP : own_z_P a b c d e) : Q a b c d e := by
  obtain ⟨⟨ha, hb, hc, hd, he⟩, n1, n2, n3, n4, n5, n6, n7, n8, n9, n10⟩ := hP
  have h1 := own_z_bor (own_z_ball (own_z_ball h ha) hb) n1
  have h2 := own_z_bor (own_z_bor (own_z_ball h1 hc) n2) n5
  have h3 := own_z_bor (own_z_bor (own_z_bor (own_z_ball h2 hd) n3) n6) n8
  exact of_decide_eq_true (own_z_bor (own_z_bor (own_z_bor (own_z_bor (own_z_ball h3 he) n4) n7) n9) n10)
theorem own_z_inj {o0 o1 o2 o3 o4 i j : Int32} (h : own_z_P o0 o1 o2 o3 o4) (hi : own_z_r5 i) (hj : own_z_r5 j) : own_z_cat o0 o1 o2 o3 o4 i = own_z_cat o0 o1 o2 o3 o4 j ↔ i = j := by
  obtain ⟨-, n01, n02, n03, n04, n12, n13, n14, n23, n24, n34⟩ := h
  constructor
  · intro e
    rcases hi with rfl | rfl | rfl | rfl | rfl <;> rcases hj with rfl | rfl | rfl | rfl | rfl <;> first | rfl | exact absurd e n01 | exact absurd e.symm n01 | exact absurd e n02 | exact absurd e.symm n02 | exact absurd e n03 | exact absurd e.symm n03 | exact absurd e n04 | exact absurd e.symm n04 | exact absurd e n12 | exact absurd e.symm n12 | exact absurd e n13 | exact absurd e.symm n13 | exact absurd e n14 | exact absurd e.symm n14 | exact absurd e n23 | exact absurd e.symm n23 | exact absurd e n24 | exact absurd e.symm n24 | exact absurd e n34 | exact absurd e.symm n34
  · rintro rfl; rfl
theorem own_z_cid {j : Int32} (h : own_z_r5 j) : own_z_cat 0 1 2 3 4 j = j := by rcases h with rfl | rfl | rfl | rfl | rfl <;> rfl
theorem own_z_cr {o0 o1 o2 o3 o4 j : Int32} (h : own_z_P o0 o1 o2 o3 o4) (hj : own_z_r5 j) : own_z_r5 (own_z_cat o0 o1 o2 o3 o4 j) := by
  obtain ⟨⟨h0, h1, h2, h3, h4⟩, -⟩ := h
  rcases hj with rfl | rfl | rfl | rfl | rfl
  · exact h0
  · exact h1
  · exact h2
  · exact h3
  · exact h4
def own_z_iv0 (o0 o1 o2 o3 o4 : Int32) : Int32 := (own_z_up o4 0 4 (own_z_up o3 0 3 (own_z_up o2 0 2 (own_z_up o1 0 1 (own_z_up o0 0 0 0)))))
def own_z_iv1 (o0 o1 o2 o3 o4 : Int32) : Int32 := (own_z_up o4 1 4 (own_z_up o3 1 3 (own_z_up o2 1 2 (own_z_up o1 1 1 (own_z_up o0 1 0 0)))))
def own_z_iv2 (o0 o1 o2 o3 o4 : Int32) : Int32 := (own_z_up o4 2 4 (own_z_up o3 2 3 (own_z_up o2 2 2 (own_z_up o1 2 1 (own_z_up o0 2 0 0)))))
def own_z_iv3 (o0 o1 o2 o3 o4 : Int32) : Int32 := (own_z_up o4 3 4 (own_z_up o3 3 3 (own_z_up o2 3 2 (own_z_up o1 3 1 (own_z_up o0 3 0 0)))))
def own_z_iv4 (o0 o1 o2 o3 o4 : Int32) : Int32 := (own_z_up o4 4 4 (own_z_up o3 4 3 (own_z_up o2 4 2 (own_z_up o1 4 1 (own_z_up o0 4 0 0)))))
def own_z_inv (o0 o1 o2 o3 o4 c : Int32) : Int32 := own_z_cat (own_z_iv0 o0 o1 o2 o3 o4) (own_z_iv1 o0 o1 o2 o3 o4) (own_z_iv2 o0 o1 o2 o3 o4) (own_z_iv3 o0 o1 o2 o3 o4) (own_z_iv4 o0 o1 o2 o3 o4) c
set_option maxRecDepth 100000 in
set_option maxHeartbeats 4000000 in
theorem own_z_inv1 {o0 o1 o2 o3 o4 : Int32} (h : own_z_P o0 o1 o2 o3 o4) : ∀ j : Fin 5, own_z_inv o0 o1 o2 o3 o4 (own_z_cat o0 o1 o2 o3 o4 (Int32.ofNat j.val)) = Int32.ofNat j.val ∧ own_z_cat o0 o1 o2 o3 o4 (own_z_inv o0 o1 o2 o3 o4 (Int32.ofNat j.val)) = Int32.ofNat j.val ∧ own_z_r5 (own_z_inv o0 o1 o2 o3 o4 (Int32.ofNat j.val)) :=
  own_z_pind (fun o0 o1 o2 o3 o4 => ∀ j : Fin 5, own_z_inv o0 o1 o2 o3 o4 (own_z_cat o0 o1 o2 o3 o4 (Int32.ofNat j.val)) = Int32.ofNat j.val ∧ own_z_cat o0 o1 o2 o3 o4 (own_z_inv o0 o1 o2 o3 o4 (Int32.ofNat j.val)) = Int32.ofNat j.val ∧ own_z_r5 (own_z_inv o0 o1 o2 o3 o4 (Int32.ofNat j.val))) (by decide +kernel) h
set_option maxRecDepth 100000 in
set_option maxHeartbeats 4000000 in
theorem own_z_ab00 {s0 s1 s2 s3 s4 : Int32} (h : own_z_P s0 s1 s2 s3 s4) : own_z_abs 0 0 s0 s1 s2 s3 s4 := own_z_pind (fun s0 s1 s2 s3 s4 => own_z_abs 0 0 s0 s1 s2 s3 s4) (by decide +kernel) h
set_option maxRecDepth 100000 in
set_option maxHeartbeats 4000000 in
theorem own_z_ab01 {s0 s1 s2 s3 s4 : Int32} (h : own_z_P s0 s1 s2 s3 s4) : own_z_abs 0 1 s0 s1 s2 s3 s4 := own_z_pind (fun s0 s1 s2 s3 s4 => own_z_abs 0 1 s0 s1 s2 s3 s4) (by decide +kernel) h
set_option maxRecDepth 100000 in
set_option maxHeartbeats 4000000 in
theorem own_z_ab02 {s0 s1 s2 s3 s4 : Int32} (h : own_z_P s0 s1 s2 s3 s4) : own_z_abs 0 2 s0 s1 s2 s3 s4 := own_z_pind (fun s0 s1 s2 s3 s4 => own_z_abs 0 2 s0 s1 s2 s3 s4) (by decide +kernel) h
set_option maxRecDepth 100000 in
set_option maxHeartbeats 4000000 in
theorem own_z_ab03 {s0 s1 s2 s3 s4 : Int32} (h : own_z_P s0 s1 s2 s3 s4) : own_z_abs 0 3 s0 s1 s2 s3 s4 := own_z_pind (fun s0 s1 s2 s3 s4 => own_z_abs 0 3 s0 s1 s2 s3 s4) (by decide +kernel) h
set_option maxRecDepth 100000 in
set_option maxHeartbeats 4000000 in
theorem own_z_ab04 {s0 s1 s2 s3 s4 : Int32} (h : own_z_P s0 s1 s2 s3 s4) : own_z_abs 0 4 s0 s1 s2 s3 s4 := own_z_pind (fun s0 s1 s2 s3 s4 => own_z_abs 0 4 s0 s1 s2 s3 s4) (by decide +kernel) h
set_option maxRecDepth 100000 in
set_option maxHeartbeats 4000000 in
theorem own_z_ab11 {s0 s1 s2 s3 s4 : Int32} (h : own_z_P s0 s1 s2 s3 s4) : own_z_abs 1 1 s0 s1 s2 s3 s4 := own_z_pind (fun s0 s1 s2 s3 s4 => own_z_abs 1 1 s0 s1 s2 s3 s4) (by decide +kernel) h
set_option maxRecDepth 100000 in
set_option maxHeartbeats 4000000 in
theorem own_z_ab12 {s0 s1 s2 s3 s4 : Int32} (h : own_z_P s0 s1 s2 s3 s4) : own_z_abs 1 2 s0 s1 s2 s3 s4 := own_z_pind (fun s0 s1 s2 s3 s4 => own_z_abs 1 2 s0 s1 s2 s3 s4) (by decide +kernel) h
set_option maxRecDepth 100000 in
set_option maxHeartbeats 4000000 in
theorem own_z_ab13 {s0 s1 s2 s3 s4 : Int32} (h : own_z_P s0 s1 s2 s3 s4) : own_z_abs 1 3 s0 s1 s2 s3 s4 := own_z_pind (fun s0 s1 s2 s3 s4 => own_z_abs 1 3 s0 s1 s2 s3 s4) (by decide +kernel) h
set_option maxRecDepth 100000 in
set_option maxHeartbeats 4000000 in
theorem own_z_ab14 {s0 s1 s2 s3 s4 : Int32} (h : own_z_P s0 s1 s2 s3 s4) : own_z_abs 1 4 s0 s1 s2 s3 s4 := own_z_pind (fun s0 s1 s2 s3 s4 => own_z_abs 1 4 s0 s1 s2 s3 s4) (by decide +kernel) h
set_option maxRecDepth 100000 in
set_option maxHeartbeats 4000000 in
theorem own_z_ab22 {s0 s1 s2 s3 s4 : Int32} (h : own_z_P s0 s1 s2 s3 s4) : own_z_abs 2 2 s0 s1 s2 s3 s4 := own_z_pind (fun s0 s1 s2 s3 s4 => own_z_abs 2 2 s0 s1 s2 s3 s4) (by decide +kernel) h
set_option maxRecDepth 100000 in
set_option maxHeartbeats 4000000 in
theorem own_z_ab23 {s0 s1 s2 s3 s4 : Int32} (h : own_z_P s0 s1 s2 s3 s4) : own_z_abs 2 3 s0 s1 s2 s3 s4 := own_z_pind (fun s0 s1 s2 s3 s4 => own_z_abs 2 3 s0 s1 s2 s3 s4) (by decide +kernel) h
set_option maxRecDepth 100000 in
set_option maxHeartbeats 4000000 in
theorem own_z_ab24 {s0 s1 s2 s3 s4 : Int32} (h : own_z_P s0 s1 s2 s3 s4) : own_z_abs 2 4 s0 s1 s2 s3 s4 := own_z_pind (fun s0 s1 s2 s3 s4 => own_z_abs 2 4 s0 s1 s2 s3 s4) (by decide +kernel) h
set_option maxRecDepth 100000 in
set_option maxHeartbeats 4000000 in
theorem own_z_ab33 {s0 s1 s2 s3 s4 : Int32} (h : own_z_P s0 s1 s2 s3 s4) : own_z_abs 3 3 s0 s1 s2 s3 s4 := own_z_pind (fun s0 s1 s2 s3 s4 => own_z_abs 3 3 s0 s1 s2 s3 s4) (by decide +kernel) h
set_option maxRecDepth 100000 in
set_option maxHeartbeats 4000000 in
theorem own_z_ab34 {s0 s1 s2 s3 s4 : Int32} (h : own_z_P s0 s1 s2 s3 s4) : own_z_abs 3 4 s0 s1 s2 s3 s4 := own_z_pind (fun s0 s1 s2 s3 s4 => own_z_abs 3 4 s0 s1 s2 s3 s4) (by decide +kernel) h
set_option maxRecDepth 100000 in
set_option maxHeartbeats 4000000 in
theorem own_z_ab44 {s0 s1 s2 s3 s4 : Int32} (h : own_z_P s0 s1 s2 s3 s4) : own_z_abs 4 4 s0 s1 s2 s3 s4 := own_z_pind (fun s0 s1 s2 s3 s4 => own_z_abs 4 4 s0 s1 s2 s3 s4) (by decide +kernel) h
theorem own_z_ab {lo hi s0 s1 s2 s3 s4 : Int32} (hL : own_z_LH lo hi) (h : own_z_P s0 s1 s2 s3 s4) : own_z_abs lo hi s0 s1 s2 s3 s4 := by
  rcases hL with ⟨rfl, rfl⟩ | ⟨rfl, rfl⟩ | ⟨rfl, rfl⟩ | ⟨rfl, rfl⟩ | ⟨rfl, rfl⟩ | ⟨rfl, rfl⟩ | ⟨rfl, rfl⟩ | ⟨rfl, rfl⟩ | ⟨rfl, rfl⟩ | ⟨rfl, rfl⟩ | ⟨rfl, rfl⟩ | ⟨rfl, rfl⟩ | ⟨rfl, rfl⟩ | ⟨rfl, rfl⟩ | ⟨rfl, rfl⟩
  · exact own_z_ab00 h
  · exact own_z_ab01 h
  · exact own_z_ab02 h
  · exact own_z_ab03 h
  · exact own_z_ab04 h
  · exact own_z_ab11 h
  · exact own_z_ab12 h
  · exact own_z_ab13 h
  · exact own_z_ab14 h
  · exact own_z_ab22 h
  · exact own_z_ab23 h
  · exact own_z_ab24 h
  · exact own_z_ab33 h
  · exact own_z_ab34 h
  · exact own_z_ab44 h
theorem own_z_bq {lo hi o0 o1 o2 o3 o4 s0 s1 s2 s3 s4 j : Int32} (ho : own_z_P o0 o1 o2 o3 o4) (h0 : own_z_r5 s0) (h1 : own_z_r5 s1) (h2 : own_z_r5 s2) (h3 : own_z_r5 s3) (h4 : own_z_r5 s4) (hj : own_z_r5 j) : own_z_b lo hi (own_z_cat o0 o1 o2 o3 o4 s0) (own_z_cat o0 o1 o2 o3 o4 s1) (own_z_cat o0 o1 o2 o3 o4 s2) (own_z_cat o0 o1 o2 o3 o4 s3) (own_z_cat o0 o1 o2 o3 o4 s4) (own_z_cat o0 o1 o2 o3 o4 j) = own_z_b lo hi s0 s1 s2 s3 s4 j := by
  unfold own_z_b own_z_bi; simp only [own_z_inj ho h0 hj, own_z_inj ho h1 hj, own_z_inj ho h2 hj, own_z_inj ho h3 hj, own_z_inj ho h4 hj]
theorem own_z_map {o0 o1 o2 o3 o4 tk f q j y : Int32} : own_z_yn tk f q (own_z_cat o0 o1 o2 o3 o4 j) (own_z_cat o0 o1 o2 o3 o4 y) = (own_z_cat o0 o1 o2 o3 o4 (own_z_yn tk f q j y)) := by
  unfold own_z_yn own_z_up; split
  · split <;> rfl
  · rfl
theorem own_z_rt1 {lo hi : Int32} (h : own_z_LH lo hi) : own_z_r5 ((hi + 1) % 5) := by rcases h with ⟨rfl, rfl⟩ | ⟨rfl, rfl⟩ | ⟨rfl, rfl⟩ | ⟨rfl, rfl⟩ | ⟨rfl, rfl⟩ | ⟨rfl, rfl⟩ | ⟨rfl, rfl⟩ | ⟨rfl, rfl⟩ | ⟨rfl, rfl⟩ | ⟨rfl, rfl⟩ | ⟨rfl, rfl⟩ | ⟨rfl, rfl⟩ | ⟨rfl, rfl⟩ | ⟨rfl, rfl⟩ | ⟨rfl, rfl⟩ <;> decide
theorem own_z_rt2 {lo hi : Int32} (h : own_z_LH lo hi) : own_z_r5 ((hi + 2) % 5) := by rcases h with ⟨rfl, rfl⟩ | ⟨rfl, rfl⟩ | ⟨rfl, rfl⟩ | ⟨rfl, rfl⟩ | ⟨rfl, rfl⟩ | ⟨rfl, rfl⟩ | ⟨rfl, rfl⟩ | ⟨rfl, rfl⟩ | ⟨rfl, rfl⟩ | ⟨rfl, rfl⟩ | ⟨rfl, rfl⟩ | ⟨rfl, rfl⟩ | ⟨rfl, rfl⟩ | ⟨rfl, rfl⟩ | ⟨rfl, rfl⟩ <;> decide
theorem own_z_rt3 {lo hi : Int32} (h : own_z_LH lo hi) : own_z_r5 ((hi + 3) % 5) := by rcases h with ⟨rfl, rfl⟩ | ⟨rfl, rfl⟩ | ⟨rfl, rfl⟩ | ⟨rfl, rfl⟩ | ⟨rfl, rfl⟩ | ⟨rfl, rfl⟩ | ⟨rfl, rfl⟩ | ⟨rfl, rfl⟩ | ⟨rfl, rfl⟩ | ⟨rfl, rfl⟩ | ⟨rfl, rfl⟩ | ⟨rfl, rfl⟩ | ⟨rfl, rfl⟩ | ⟨rfl, rfl⟩ | ⟨rfl, rfl⟩ <;> decide
theorem own_z_rt4 {lo hi : Int32} (h : own_z_LH lo hi) : own_z_r5 ((hi + 4) % 5) := by rcases h with ⟨rfl, rfl⟩ | ⟨rfl, rfl⟩ | ⟨rfl, rfl⟩ | ⟨rfl, rfl⟩ | ⟨rfl, rfl⟩ | ⟨rfl, rfl⟩ | ⟨rfl, rfl⟩ | ⟨rfl, rfl⟩ | ⟨rfl, rfl⟩ | ⟨rfl, rfl⟩ | ⟨rfl, rfl⟩ | ⟨rfl, rfl⟩ | ⟨rfl, rfl⟩ | ⟨rfl, rfl⟩ | ⟨rfl, rfl⟩ <;> decide
theorem own_z_rt5 {lo hi : Int32} (h : own_z_LH lo hi) : own_z_r5 ((hi + 5) % 5) := by rcases h with ⟨rfl, rfl⟩ | ⟨rfl, rfl⟩ | ⟨rfl, rfl⟩ | ⟨rfl, rfl⟩ | ⟨rfl, rfl⟩ | ⟨rfl, rfl⟩ | ⟨rfl, rfl⟩ | ⟨rfl, rfl⟩ | ⟨rfl, rfl⟩ | ⟨rfl, rfl⟩ | ⟨rfl, rfl⟩ | ⟨rfl, rfl⟩ | ⟨rfl, rfl⟩ | ⟨rfl, rfl⟩ | ⟨rfl, rfl⟩ <;> decide
theorem own_z_yq0_0 {lo hi o0 o1 o2 o3 o4 s : Int32} : own_z_y 0 lo hi 0 (own_z_cat o0 o1 o2 o3 o4 s) = (own_z_cat o0 o1 o2 o3 o4 (own_z_y 5 lo hi 0 s)) := by unfold own_z_y; split <;> rfl
theorem own_z_yq0_1 {lo hi o0 o1 o2 o3 o4 s : Int32} : own_z_y 0 lo hi 1 (own_z_cat o0 o1 o2 o3 o4 s) = (own_z_cat o0 o1 o2 o3 o4 (own_z_y 5 lo hi 1 s)) := by unfold own_z_y; split <;> rfl
theorem own_z_yq0_2 {lo hi o0 o1 o2 o3 o4 s : Int32} : own_z_y 0 lo hi 2 (own_z_cat o0 o1 o2 o3 o4 s) = (own_z_cat o0 o1 o2 o3 o4 (own_z_y 5 lo hi 2 s)) := by unfold own_z_y; split <;> rfl
theorem own_z_yq0_3 {lo hi o0 o1 o2 o3 o4 s : Int32} : own_z_y 0 lo hi 3 (own_z_cat o0 o1 o2 o3 o4 s) = (own_z_cat o0 o1 o2 o3 o4 (own_z_y 5 lo hi 3 s)) := by unfold own_z_y; split <;> rfl
theorem own_z_yq0_4 {lo hi o0 o1 o2 o3 o4 s : Int32} : own_z_y 0 lo hi 4 (own_z_cat o0 o1 o2 o3 o4 s) = (own_z_cat o0 o1 o2 o3 o4 (own_z_y 5 lo hi 4 s)) := by unfold own_z_y; split <;> rfl
theorem own_z_tkq1 {lo hi o0 o1 o2 o3 o4 s0 s1 s2 s3 s4 : Int32} (hL : own_z_LH lo hi) (ho : own_z_P o0 o1 o2 o3 o4) (h0 : own_z_r5 s0) (h1 : own_z_r5 s1) (h2 : own_z_r5 s2) (h3 : own_z_r5 s3) (h4 : own_z_r5 s4) : own_z_tk1 lo hi (own_z_cat o0 o1 o2 o3 o4 s0) (own_z_cat o0 o1 o2 o3 o4 s1) (own_z_cat o0 o1 o2 o3 o4 s2) (own_z_cat o0 o1 o2 o3 o4 s3) (own_z_cat o0 o1 o2 o3 o4 s4) o0 o1 o2 o3 o4 = own_z_tk1 lo hi s0 s1 s2 s3 s4 0 1 2 3 4 := by
  unfold own_z_tk1 own_z_ct1; rw [own_z_bq ho h0 h1 h2 h3 h4 (own_z_rt1 hL), own_z_cid (own_z_rt1 hL)]
theorem own_z_fq1 {lo hi o0 o1 o2 o3 o4 s0 s1 s2 s3 s4 : Int32} (hL : own_z_LH lo hi) (ho : own_z_P o0 o1 o2 o3 o4) (h0 : own_z_r5 s0) (h1 : own_z_r5 s1) (h2 : own_z_r5 s2) (h3 : own_z_r5 s3) (h4 : own_z_r5 s4) : own_z_f1 lo hi (own_z_cat o0 o1 o2 o3 o4 s0) (own_z_cat o0 o1 o2 o3 o4 s1) (own_z_cat o0 o1 o2 o3 o4 s2) (own_z_cat o0 o1 o2 o3 o4 s3) (own_z_cat o0 o1 o2 o3 o4 s4) o0 o1 o2 o3 o4 = own_z_f1 lo hi s0 s1 s2 s3 s4 0 1 2 3 4 := by
  unfold own_z_f1; rw [own_z_tkq1 hL ho h0 h1 h2 h3 h4]
theorem own_z_yq1_0 {lo hi o0 o1 o2 o3 o4 s0 s1 s2 s3 s4 : Int32} (hL : own_z_LH lo hi) (ho : own_z_P o0 o1 o2 o3 o4) (h0 : own_z_r5 s0) (h1 : own_z_r5 s1) (h2 : own_z_r5 s2) (h3 : own_z_r5 s3) (h4 : own_z_r5 s4) : own_z_y1_0 0 lo hi (own_z_cat o0 o1 o2 o3 o4 s0) (own_z_cat o0 o1 o2 o3 o4 s1) (own_z_cat o0 o1 o2 o3 o4 s2) (own_z_cat o0 o1 o2 o3 o4 s3) (own_z_cat o0 o1 o2 o3 o4 s4) o0 o1 o2 o3 o4 = (own_z_cat o0 o1 o2 o3 o4 (own_z_y1_0 5 lo hi s0 s1 s2 s3 s4 0 1 2 3 4)) := by
  unfold own_z_y1_0 own_z_ct1; rw [own_z_tkq1 hL ho h0 h1 h2 h3 h4, own_z_yq0_0, own_z_map, own_z_cid (own_z_rt1 hL)]
theorem own_z_yq1_1 {lo hi o0 o1 o2 o3 o4 s0 s1 s2 s3 s4 : Int32} (hL : own_z_LH lo hi) (ho : own_z_P o0 o1 o2 o3 o4) (h0 : own_z_r5 s0) (h1 : own_z_r5 s1) (h2 : own_z_r5 s2) (h3 : own_z_r5 s3) (h4 : own_z_r5 s4) : own_z_y1_1 0 lo hi (own_z_cat o0 o1 o2 o3 o4 s0) (own_z_cat o0 o1 o2 o3 o4 s1) (own_z_cat o0 o1 o2 o3 o4 s2) (own_z_cat o0 o1 o2 o3 o4 s3) (own_z_cat o0 o1 o2 o3 o4 s4) o0 o1 o2 o3 o4 = (own_z_cat o0 o1 o2 o3 o4 (own_z_y1_1 5 lo hi s0 s1 s2 s3 s4 0 1 2 3 4)) := by
  unfold own_z_y1_1 own_z_ct1; rw [own_z_tkq1 hL ho h0 h1 h2 h3 h4, own_z_yq0_1, own_z_map, own_z_cid (own_z_rt1 hL)]
theorem own_z_yq1_2 {lo hi o0 o1 o2 o3 o4 s0 s1 s2 s3 s4 : Int32} (hL : own_z_LH lo hi) (ho : own_z_P o0 o1 o2 o3 o4) (h0 : own_z_r5 s0) (h1 : own_z_r5 s1) (h2 : own_z_r5 s2) (h3 : own_z_r5 s3) (h4 : own_z_r5 s4) : own_z_y1_2 0 lo hi (own_z_cat o0 o1 o2 o3 o4 s0) (own_z_cat o0 o1 o2 o3 o4 s1) (own_z_cat o0 o1 o2 o3 o4 s2) (own_z_cat o0 o1 o2 o3 o4 s3) (own_z_cat o0 o1 o2 o3 o4 s4) o0 o1 o2 o3 o4 = (own_z_cat o0 o1 o2 o3 o4 (own_z_y1_2 5 lo hi s0 s1 s2 s3 s4 0 1 2 3 4)) := by
  unfold own_z_y1_2 own_z_ct1; rw [own_z_tkq1 hL ho h0 h1 h2 h3 h4, own_z_yq0_2, own_z_map, own_z_cid (own_z_rt1 hL)]
theorem own_z_yq1_3 {lo hi o0 o1 o2 o3 o4 s0 s1 s2 s3 s4 : Int32} (hL : own_z_LH lo hi) (ho : own_z_P o0 o1 o2 o3 o4) (h0 : own_z_r5 s0) (h1 : own_z_r5 s1) (h2 : own_z_r5 s2) (h3 : own_z_r5 s3) (h4 : own_z_r5 s4) : own_z_y1_3 0 lo hi (own_z_cat o0 o1 o2 o3 o4 s0) (own_z_cat o0 o1 o2 o3 o4 s1) (own_z_cat o0 o1 o2 o3 o4 s2) (own_z_cat o0 o1 o2 o3 o4 s3) (own_z_cat o0 o1 o2 o3 o4 s4) o0 o1 o2 o3 o4 = (own_z_cat o0 o1 o2 o3 o4 (own_z_y1_3 5 lo hi s0 s1 s2 s3 s4 0 1 2 3 4)) := by
  unfold own_z_y1_3 own_z_ct1; rw [own_z_tkq1 hL ho h0 h1 h2 h3 h4, own_z_yq0_3, own_z_map, own_z_cid (own_z_rt1 hL)]
theorem own_z_yq1_4 {lo hi o0 o1 o2 o3 o4 s0 s1 s2 s3 s4 : Int32} (hL : own_z_LH lo hi) (ho : own_z_P o0 o1 o2 o3 o4) (h0 : own_z_r5 s0) (h1 : own_z_r5 s1) (h2 : own_z_r5 s2) (h3 : own_z_r5 s3) (h4 : own_z_r5 s4) : own_z_y1_4 0 lo hi (own_z_cat o0 o1 o2 o3 o4 s0) (own_z_cat o0 o1 o2 o3 o4 s1) (own_z_cat o0 o1 o2 o3 o4 s2) (own_z_cat o0 o1 o2 o3 o4 s3) (own_z_cat o0 o1 o2 o3 o4 s4) o0 o1 o2 o3 o4 = (own_z_cat o0 o1 o2 o3 o4 (own_z_y1_4 5 lo hi s0 s1 s2 s3 s4 0 1 2 3 4)) := by
  unfold own_z_y1_4 own_z_ct1; rw [own_z_tkq1 hL ho h0 h1 h2 h3 h4, own_z_yq0_4, own_z_map, own_z_cid (own_z_rt1 hL)]
theorem own_z_tkq2 {lo hi o0 o1 o2 o3 o4 s0 s1 s2 s3 s4 : Int32} (hL : own_z_LH lo hi) (ho : own_z_P o0 o1 o2 o3 o4) (h0 : own_z_r5 s0) (h1 : own_z_r5 s1) (h2 : own_z_r5 s2) (h3 : own_z_r5 s3) (h4 : own_z_r5 s4) : own_z_tk2 lo hi (own_z_cat o0 o1 o2 o3 o4 s0) (own_z_cat o0 o1 o2 o3 o4 s1) (own_z_cat o0 o1 o2 o3 o4 s2) (own_z_cat o0 o1 o2 o3 o4 s3) (own_z_cat o0 o1 o2 o3 o4 s4) o0 o1 o2 o3 o4 = own_z_tk2 lo hi s0 s1 s2 s3 s4 0 1 2 3 4 := by
  unfold own_z_tk2 own_z_ct2; rw [own_z_bq ho h0 h1 h2 h3 h4 (own_z_rt2 hL), own_z_cid (own_z_rt2 hL)]
theorem own_z_fq2 {lo hi o0 o1 o2 o3 o4 s0 s1 s2 s3 s4 : Int32} (hL : own_z_LH lo hi) (ho : own_z_P o0 o1 o2 o3 o4) (h0 : own_z_r5 s0) (h1 : own_z_r5 s1) (h2 : own_z_r5 s2) (h3 : own_z_r5 s3) (h4 : own_z_r5 s4) : own_z_f2 lo hi (own_z_cat o0 o1 o2 o3 o4 s0) (own_z_cat o0 o1 o2 o3 o4 s1) (own_z_cat o0 o1 o2 o3 o4 s2) (own_z_cat o0 o1 o2 o3 o4 s3) (own_z_cat o0 o1 o2 o3 o4 s4) o0 o1 o2 o3 o4 = own_z_f2 lo hi s0 s1 s2 s3 s4 0 1 2 3 4 := by
  unfold own_z_f2; rw [own_z_tkq2 hL ho h0 h1 h2 h3 h4, own_z_fq1 hL ho h0 h1 h2 h3 h4]
theorem own_z_yq2_0 {lo hi o0 o1 o2 o3 o4 s0 s1 s2 s3 s4 : Int32} (hL : own_z_LH lo hi) (ho : own_z_P o0 o1 o2 o3 o4) (h0 : own_z_r5 s0) (h1 : own_z_r5 s1) (h2 : own_z_r5 s2) (h3 : own_z_r5 s3) (h4 : own_z_r5 s4) : own_z_y2_0 0 lo hi (own_z_cat o0 o1 o2 o3 o4 s0) (own_z_cat o0 o1 o2 o3 o4 s1) (own_z_cat o0 o1 o2 o3 o4 s2) (own_z_cat o0 o1 o2 o3 o4 s3) (own_z_cat o0 o1 o2 o3 o4 s4) o0 o1 o2 o3 o4 = (own_z_cat o0 o1 o2 o3 o4 (own_z_y2_0 5 lo hi s0 s1 s2 s3 s4 0 1 2 3 4)) := by
  unfold own_z_y2_0 own_z_ct2; rw [own_z_tkq2 hL ho h0 h1 h2 h3 h4, own_z_fq1 hL ho h0 h1 h2 h3 h4, own_z_yq1_0 hL ho h0 h1 h2 h3 h4, own_z_map, own_z_cid (own_z_rt2 hL)]
theorem own_z_yq2_1 {lo hi o0 o1 o2 o3 o4 s0 s1 s2 s3 s4 : Int32} (hL : own_z_LH lo hi) (ho : own_z_P o0 o1 o2 o3 o4) (h0 : own_z_r5 s0) (h1 : own_z_r5 s1) (h2 : own_z_r5 s2) (h3 : own_z_r5 s3) (h4 : own_z_r5 s4) : own_z_y2_1 0 lo hi (own_z_cat o0 o1 o2 o3 o4 s0) (own_z_cat o0 o1 o2 o3 o4 s1) (own_z_cat o0 o1 o2 o3 o4 s2) (own_z_cat o0 o1 o2 o3 o4 s3) (own_z_cat o0 o1 o2 o3 o4 s4) o0 o1 o2 o3 o4 = (own_z_cat o0 o1 o2 o3 o4 (own_z_y2_1 5 lo hi s0 s1 s2 s3 s4 0 1 2 3 4)) := by
  unfold own_z_y2_1 own_z_ct2; rw [own_z_tkq2 hL ho h0 h1 h2 h3 h4, own_z_fq1 hL ho h0 h1 h2 h3 h4, own_z_yq1_1 hL ho h0 h1 h2 h3 h4, own_z_map, own_z_cid (own_z_rt2 hL)]
theorem own_z_yq2_2 {lo hi o0 o1 o2 o3 o4 s0 s1 s2 s3 s4 : Int32} (hL : own_z_LH lo hi) (ho : own_z_P o0 o1 o2 o3 o4) (h0 : own_z_r5 s0) (h1 : own_z_r5 s1) (h2 : own_z_r5 s2) (h3 : own_z_r5 s3) (h4 : own_z_r5 s4) : own_z_y2_2 0 lo hi (own_z_cat o0 o1 o2 o3 o4 s0) (own_z_cat o0 o1 o2 o3 o4 s1) (own_z_cat o0 o1 o2 o3 o4 s2) (own_z_cat o0 o1 o2 o3 o4 s3) (own_z_cat o0 o1 o2 o3 o4 s4) o0 o1 o2 o3 o4 = (own_z_cat o0 o1 o2 o3 o4 (own_z_y2_2 5 lo hi s0 s1 s2 s3 s4 0 1 2 3 4)) := by
  unfold own_z_y2_2 own_z_ct2; rw [own_z_tkq2 hL ho h0 h1 h2 h3 h4, own_z_fq1 hL ho h0 h1 h2 h3 h4, own_z_yq1_2 hL ho h0 h1 h2 h3 h4, own_z_map, own_z_cid (own_z_rt2 hL)]
theorem own_z_yq2_3 {lo hi o0 o1 o2 o3 o4 s0 s1 s2 s3 s4 : Int32} (hL : own_z_LH lo hi) (ho : own_z_P o0 o1 o2 o3 o4) (h0 : own_z_r5 s0) (h1 : own_z_r5 s1) (h2 : own_z_r5 s2) (h3 : own_z_r5 s3) (h4 : own_z_r5 s4) : own_z_y2_3 0 lo hi (own_z_cat o0 o1 o2 o3 o4 s0) (own_z_cat o0 o1 o2 o3 o4 s1) (own_z_cat o0 o1 o2 o3 o4 s2) (own_z_cat o0 o1 o2 o3 o4 s3) (own_z_cat o0 o1 o2 o3 o4 s4) o0 o1 o2 o3 o4 = (own_z_cat o0 o1 o2 o3 o4 (own_z_y2_3 5 lo hi s0 s1 s2 s3 s4 0 1 2 3 4)) := by
  unfold own_z_y2_3 own_z_ct2; rw [own_z_tkq2 hL ho h0 h1 h2 h3 h4, own_z_fq1 hL ho h0 h1 h2 h3 h4, own_z_yq1_3 hL ho h0 h1 h2 h3 h4, own_z_map, own_z_cid (own_z_rt2 hL)]
theorem own_z_yq2_4 {lo hi o0 o1 o2 o3 o4 s0 s1 s2 s3 s4 : Int32} (hL : own_z_LH lo hi) (ho : own_z_P o0 o1 o2 o3 o4) (h0 : own_z_r5 s0) (h1 : own_z_r5 s1) (h2 : own_z_r5 s2) (h3 : own_z_r5 s3) (h4 : own_z_r5 s4) : own_z_y2_4 0 lo hi (own_z_cat o0 o1 o2 o3 o4 s0) (own_z_cat o0 o1 o2 o3 o4 s1) (own_z_cat o0 o1 o2 o3 o4 s2) (own_z_cat o0 o1 o2 o3 o4 s3) (own_z_cat o0 o1 o2 o3 o4 s4) o0 o1 o2 o3 o4 = (own_z_cat o0 o1 o2 o3 o4 (own_z_y2_4 5 lo hi s0 s1 s2 s3 s4 0 1 2 3 4)) := by
  unfold own_z_y2_4 own_z_ct2; rw [own_z_tkq2 hL ho h0 h1 h2 h3 h4, own_z_fq1 hL ho h0 h1 h2 h3 h4, own_z_yq1_4 hL ho h0 h1 h2 h3 h4, own_z_map, own_z_cid (own_z_rt2 hL)]
theorem own_z_tkq3 {lo hi o0 o1 o2 o3 o4 s0 s1 s2 s3 s4 : Int32} (hL : own_z_LH lo hi) (ho : own_z_P o0 o1 o2 o3 o4) (h0 : own_z_r5 s0) (h1 : own_z_r5 s1) (h2 : own_z_r5 s2) (h3 : own_z_r5 s3) (h4 : own_z_r5 s4) : own_z_tk3 lo hi (own_z_cat o0 o1 o2 o3 o4 s0) (own_z_cat o0 o1 o2 o3 o4 s1) (own_z_cat o0 o1 o2 o3 o4 s2) (own_z_cat o0 o1 o2 o3 o4 s3) (own_z_cat o0 o1 o2 o3 o4 s4) o0 o1 o2 o3 o4 = own_z_tk3 lo hi s0 s1 s2 s3 s4 0 1 2 3 4 := by
  unfold own_z_tk3 own_z_ct3; rw [own_z_bq ho h0 h1 h2 h3 h4 (own_z_rt3 hL), own_z_cid (own_z_rt3 hL)]
theorem own_z_fq3 {lo hi o0 o1 o2 o3 o4 s0 s1 s2 s3 s4 : Int32} (hL : own_z_LH lo hi) (ho : own_z_P o0 o1 o2 o3 o4) (h0 : own_z_r5 s0) (h1 : own_z_r5 s1) (h2 : own_z_r5 s2) (h3 : own_z_r5 s3) (h4 : own_z_r5 s4) : own_z_f3 lo hi (own_z_cat o0 o1 o2 o3 o4 s0) (own_z_cat o0 o1 o2 o3 o4 s1) (own_z_cat o0 o1 o2 o3 o4 s2) (own_z_cat o0 o1 o2 o3 o4 s3) (own_z_cat o0 o1 o2 o3 o4 s4) o0 o1 o2 o3 o4 = own_z_f3 lo hi s0 s1 s2 s3 s4 0 1 2 3 4 := by
  unfold own_z_f3; rw [own_z_tkq3 hL ho h0 h1 h2 h3 h4, own_z_fq2 hL ho h0 h1 h2 h3 h4]
theorem own_z_yq3_0 {lo hi o0 o1 o2 o3 o4 s0 s1 s2 s3 s4 : Int32} (hL : own_z_LH lo hi) (ho : own_z_P o0 o1 o2 o3 o4) (h0 : own_z_r5 s0) (h1 : own_z_r5 s1) (h2 : own_z_r5 s2) (h3 : own_z_r5 s3) (h4 : own_z_r5 s4) : own_z_y3_0 0 lo hi (own_z_cat o0 o1 o2 o3 o4 s0) (own_z_cat o0 o1 o2 o3 o4 s1) (own_z_cat o0 o1 o2 o3 o4 s2) (own_z_cat o0 o1 o2 o3 o4 s3) (own_z_cat o0 o1 o2 o3 o4 s4) o0 o1 o2 o3 o4 = (own_z_cat o0 o1 o2 o3 o4 (own_z_y3_0 5 lo hi s0 s1 s2 s3 s4 0 1 2 3 4)) := by
  unfold own_z_y3_0 own_z_ct3; rw [own_z_tkq3 hL ho h0 h1 h2 h3 h4, own_z_fq2 hL ho h0 h1 h2 h3 h4, own_z_yq2_0 hL ho h0 h1 h2 h3 h4, own_z_map, own_z_cid (own_z_rt3 hL)]
theorem own_z_yq3_1 {lo hi o0 o1 o2 o3 o4 s0 s1 s2 s3 s4 : Int32} (hL : own_z_LH lo hi) (ho : own_z_P o0 o1 o2 o3 o4) (h0 : own_z_r5 s0) (h1 : own_z_r5 s1) (h2 : own_z_r5 s2) (h3 : own_z_r5 s3) (h4 : own_z_r5 s4) : own_z_y3_1 0 lo hi (own_z_cat o0 o1 o2 o3 o4 s0) (own_z_cat o0 o1 o2 o3 o4 s1) (own_z_cat o0 o1 o2 o3 o4 s2) (own_z_cat o0 o1 o2 o3 o4 s3) (own_z_cat o0 o1 o2 o3 o4 s4) o0 o1 o2 o3 o4 = (own_z_cat o0 o1 o2 o3 o4 (own_z_y3_1 5 lo hi s0 s1 s2 s3 s4 0 1 2 3 4)) := by
  unfold own_z_y3_1 own_z_ct3; rw [own_z_tkq3 hL ho h0 h1 h2 h3 h4, own_z_fq2 hL ho h0 h1 h2 h3 h4, own_z_yq2_1 hL ho h0 h1 h2 h3 h4, own_z_map, own_z_cid (own_z_rt3 hL)]
theorem own_z_yq3_2 {lo hi o0 o1 o2 o3 o4 s0 s1 s2 s3 s4 : Int32} (hL : own_z_LH lo hi) (ho : own_z_P o0 o1 o2 o3 o4) (h0 : own_z_r5 s0) (h1 : own_z_r5 s1) (h2 : own_z_r5 s2) (h3 : own_z_r5 s3) (h4 : own_z_r5 s4) : own_z_y3_2 0 lo hi (own_z_cat o0 o1 o2 o3 o4 s0) (own_z_cat o0 o1 o2 o3 o4 s1) (own_z_cat o0 o1 o2 o3 o4 s2) (own_z_cat o0 o1 o2 o3 o4 s3) (own_z_cat o0 o1 o2 o3 o4 s4) o0 o1 o2 o3 o4 = (own_z_cat o0 o1 o2 o3 o4 (own_z_y3_2 5 lo hi s0 s1 s2 s3 s4 0 1 2 3 4)) := by
  unfold own_z_y3_2 own_z_ct3; rw [own_z_tkq3 hL ho h0 h1 h2 h3 h4, own_z_fq2 hL ho h0 h1 h2 h3 h4, own_z_yq2_2 hL ho h0 h1 h2 h3 h4, own_z_map, own_z_cid (own_z_rt3 hL)]
theorem own_z_yq3_3 {lo hi o0 o1 o2 o3 o4 s0 s1 s2 s3 s4 : Int32} (hL : own_z_LH lo hi) (ho : own_z_P o0 o1 o2 o3 o4) (h0 : own_z_r5 s0) (h1 : own_z_r5 s1) (h2 : own_z_r5 s2) (h3 : own_z_r5 s3) (h4 : own_z_r5 s4) : own_z_y3_3 0 lo hi (own_z_cat o0 o1 o2 o3 o4 s0) (own_z_cat o0 o1 o2 o3 o4 s1) (own_z_cat o0 o1 o2 o3 o4 s2) (own_z_cat o0 o1 o2 o3 o4 s3) (own_z_cat o0 o1 o2 o3 o4 s4) o0 o1 o2 o3 o4 = (own_z_cat o0 o1 o2 o3 o4 (own_z_y3_3 5 lo hi s0 s1 s2 s3 s4 0 1 2 3 4)) := by
  unfold own_z_y3_3 own_z_ct3; rw [own_z_tkq3 hL ho h0 h1 h2 h3 h4, own_z_fq2 hL ho h0 h1 h2 h3 h4, own_z_yq2_3 hL ho h0 h1 h2 h3 h4, own_z_map, own_z_cid (own_z_rt3 hL)]
theorem own_z_yq3_4 {lo hi o0 o1 o2 o3 o4 s0 s1 s2 s3 s4 : Int32} (hL : own_z_LH lo hi) (ho : own_z_P o0 o1 o2 o3 o4) (h0 : own_z_r5 s0) (h1 : own_z_r5 s1) (h2 : own_z_r5 s2) (h3 : own_z_r5 s3) (h4 : own_z_r5 s4) : own_z_y3_4 0 lo hi (own_z_cat o0 o1 o2 o3 o4 s0) (own_z_cat o0 o1 o2 o3 o4 s1) (own_z_cat o0 o1 o2 o3 o4 s2) (own_z_cat o0 o1 o2 o3 o4 s3) (own_z_cat o0 o1 o2 o3 o4 s4) o0 o1 o2 o3 o4 = (own_z_cat o0 o1 o2 o3 o4 (own_z_y3_4 5 lo hi s0 s1 s2 s3 s4 0 1 2 3 4)) := by
  unfold own_z_y3_4 own_z_ct3; rw [own_z_tkq3 hL ho h0 h1 h2 h3 h4, own_z_fq2 hL ho h0 h1 h2 h3 h4, own_z_yq2_4 hL ho h0 h1 h2 h3 h4, own_z_map, own_z_cid (own_z_rt3 hL)]
theorem own_z_tkq4 {lo hi o0 o1 o2 o3 o4 s0 s1 s2 s3 s4 : Int32} (hL : own_z_LH lo hi) (ho : own_z_P o0 o1 o2 o3 o4) (h0 : own_z_r5 s0) (h1 : own_z_r5 s1) (h2 : own_z_r5 s2) (h3 : own_z_r5 s3) (h4 : own_z_r5 s4) : own_z_tk4 lo hi (own_z_cat o0 o1 o2 o3 o4 s0) (own_z_cat o0 o1 o2 o3 o4 s1) (own_z_cat o0 o1 o2 o3 o4 s2) (own_z_cat o0 o1 o2 o3 o4 s3) (own_z_cat o0 o1 o2 o3 o4 s4) o0 o1 o2 o3 o4 = own_z_tk4 lo hi s0 s1 s2 s3 s4 0 1 2 3 4 := by
  unfold own_z_tk4 own_z_ct4; rw [own_z_bq ho h0 h1 h2 h3 h4 (own_z_rt4 hL), own_z_cid (own_z_rt4 hL)]
theorem own_z_fq4 {lo hi o0 o1 o2 o3 o4 s0 s1 s2 s3 s4 : Int32} (hL : own_z_LH lo hi) (ho : own_z_P o0 o1 o2 o3 o4) (h0 : own_z_r5 s0) (h1 : own_z_r5 s1) (h2 : own_z_r5 s2) (h3 : own_z_r5 s3) (h4 : own_z_r5 s4) : own_z_f4 lo hi (own_z_cat o0 o1 o2 o3 o4 s0) (own_z_cat o0 o1 o2 o3 o4 s1) (own_z_cat o0 o1 o2 o3 o4 s2) (own_z_cat o0 o1 o2 o3 o4 s3) (own_z_cat o0 o1 o2 o3 o4 s4) o0 o1 o2 o3 o4 = own_z_f4 lo hi s0 s1 s2 s3 s4 0 1 2 3 4 := by
  unfold own_z_f4; rw [own_z_tkq4 hL ho h0 h1 h2 h3 h4, own_z_fq3 hL ho h0 h1 h2 h3 h4]
theorem own_z_yq4_0 {lo hi o0 o1 o2 o3 o4 s0 s1 s2 s3 s4 : Int32} (hL : own_z_LH lo hi) (ho : own_z_P o0 o1 o2 o3 o4) (h0 : own_z_r5 s0) (h1 : own_z_r5 s1) (h2 : own_z_r5 s2) (h3 : own_z_r5 s3) (h4 : own_z_r5 s4) : own_z_y4_0 0 lo hi (own_z_cat o0 o1 o2 o3 o4 s0) (own_z_cat o0 o1 o2 o3 o4 s1) (own_z_cat o0 o1 o2 o3 o4 s2) (own_z_cat o0 o1 o2 o3 o4 s3) (own_z_cat o0 o1 o2 o3 o4 s4) o0 o1 o2 o3 o4 = (own_z_cat o0 o1 o2 o3 o4 (own_z_y4_0 5 lo hi s0 s1 s2 s3 s4 0 1 2 3 4)) := by
  unfold own_z_y4_0 own_z_ct4; rw [own_z_tkq4 hL ho h0 h1 h2 h3 h4, own_z_fq3 hL ho h0 h1 h2 h3 h4, own_z_yq3_0 hL ho h0 h1 h2 h3 h4, own_z_map, own_z_cid (own_z_rt4 hL)]
theorem own_z_yq4_1 {lo hi o0 o1 o2 o3 o4 s0 s1 s2 s3 s4 : Int32} (hL : own_z_LH lo hi) (ho : own_z_P o0 o1 o2 o3 o4) (h0 : own_z_r5 s0) (h1 : own_z_r5 s1) (h2 : own_z_r5 s2) (h3 : own_z_r5 s3) (h4 : own_z_r5 s4) : own_z_y4_1 0 lo hi (own_z_cat o0 o1 o2 o3 o4 s0) (own_z_cat o0 o1 o2 o3 o4 s1) (own_z_cat o0 o1 o2 o3 o4 s2) (own_z_cat o0 o1 o2 o3 o4 s3) (own_z_cat o0 o1 o2 o3 o4 s4) o0 o1 o2 o3 o4 = (own_z_cat o0 o1 o2 o3 o4 (own_z_y4_1 5 lo hi s0 s1 s2 s3 s4 0 1 2 3 4)) := by
  unfold own_z_y4_1 own_z_ct4; rw [own_z_tkq4 hL ho h0 h1 h2 h3 h4, own_z_fq3 hL ho h0 h1 h2 h3 h4, own_z_yq3_1 hL ho h0 h1 h2 h3 h4, own_z_map, own_z_cid (own_z_rt4 hL)]
theorem own_z_yq4_2 {lo hi o0 o1 o2 o3 o4 s0 s1 s2 s3 s4 : Int32} (hL : own_z_LH lo hi) (ho : own_z_P o0 o1 o2 o3 o4) (h0 : own_z_r5 s0) (h1 : own_z_r5 s1) (h2 : own_z_r5 s2) (h3 : own_z_r5 s3) (h4 : own_z_r5 s4) : own_z_y4_2 0 lo hi (own_z_cat o0 o1 o2 o3 o4 s0) (own_z_cat o0 o1 o2 o3 o4 s1) (own_z_cat o0 o1 o2 o3 o4 s2) (own_z_cat o0 o1 o2 o3 o4 s3) (own_z_cat o0 o1 o2 o3 o4 s4) o0 o1 o2 o3 o4 = (own_z_cat o0 o1 o2 o3 o4 (own_z_y4_2 5 lo hi s0 s1 s2 s3 s4 0 1 2 3 4)) := by
  unfold own_z_y4_2 own_z_ct4; rw [own_z_tkq4 hL ho h0 h1 h2 h3 h4, own_z_fq3 hL ho h0 h1 h2 h3 h4, own_z_yq3_2 hL ho h0 h1 h2 h3 h4, own_z_map, own_z_cid (own_z_rt4 hL)]
theorem own_z_yq4_3 {lo hi o0 o1 o2 o3 o4 s0 s1 s2 s3 s4 : Int32} (hL : own_z_LH lo hi) (ho : own_z_P o0 o1 o2 o3 o4) (h0 : own_z_r5 s0) (h1 : own_z_r5 s1) (h2 : own_z_r5 s2) (h3 : own_z_r5 s3) (h4 : own_z_r5 s4) : own_z_y4_3 0 lo hi (own_z_cat o0 o1 o2 o3 o4 s0) (own_z_cat o0 o1 o2 o3 o4 s1) (own_z_cat o0 o1 o2 o3 o4 s2) (own_z_cat o0 o1 o2 o3 o4 s3) (own_z_cat o0 o1 o2 o3 o4 s4) o0 o1 o2 o3 o4 = (own_z_cat o0 o1 o2 o3 o4 (own_z_y4_3 5 lo hi s0 s1 s2 s3 s4 0 1 2 3 4)) := by
  unfold own_z_y4_3 own_z_ct4; rw [own_z_tkq4 hL ho h0 h1 h2 h3 h4, own_z_fq3 hL ho h0 h1 h2 h3 h4, own_z_yq3_3 hL ho h0 h1 h2 h3 h4, own_z_map, own_z_cid (own_z_rt4 hL)]
theorem own_z_yq4_4 {lo hi o0 o1 o2 o3 o4 s0 s1 s2 s3 s4 : Int32} (hL : own_z_LH lo hi) (ho : own_z_P o0 o1 o2 o3 o4) (h0 : own_z_r5 s0) (h1 : own_z_r5 s1) (h2 : own_z_r5 s2) (h3 : own_z_r5 s3) (h4 : own_z_r5 s4) : own_z_y4_4 0 lo hi (own_z_cat o0 o1 o2 o3 o4 s0) (own_z_cat o0 o1 o2 o3 o4 s1) (own_z_cat o0 o1 o2 o3 o4 s2) (own_z_cat o0 o1 o2 o3 o4 s3) (own_z_cat o0 o1 o2 o3 o4 s4) o0 o1 o2 o3 o4 = (own_z_cat o0 o1 o2 o3 o4 (own_z_y4_4 5 lo hi s0 s1 s2 s3 s4 0 1 2 3 4)) := by
  unfold own_z_y4_4 own_z_ct4; rw [own_z_tkq4 hL ho h0 h1 h2 h3 h4, own_z_fq3 hL ho h0 h1 h2 h3 h4, own_z_yq3_4 hL ho h0 h1 h2 h3 h4, own_z_map, own_z_cid (own_z_rt4 hL)]
theorem own_z_tkq5 {lo hi o0 o1 o2 o3 o4 s0 s1 s2 s3 s4 : Int32} (hL : own_z_LH lo hi) (ho : own_z_P o0 o1 o2 o3 o4) (h0 : own_z_r5 s0) (h1 : own_z_r5 s1) (h2 : own_z_r5 s2) (h3 : own_z_r5 s3) (h4 : own_z_r5 s4) : own_z_tk5 lo hi (own_z_cat o0 o1 o2 o3 o4 s0) (own_z_cat o0 o1 o2 o3 o4 s1) (own_z_cat o0 o1 o2 o3 o4 s2) (own_z_cat o0 o1 o2 o3 o4 s3) (own_z_cat o0 o1 o2 o3 o4 s4) o0 o1 o2 o3 o4 = own_z_tk5 lo hi s0 s1 s2 s3 s4 0 1 2 3 4 := by
  unfold own_z_tk5 own_z_ct5; rw [own_z_bq ho h0 h1 h2 h3 h4 (own_z_rt5 hL), own_z_cid (own_z_rt5 hL)]
theorem own_z_fq5 {lo hi o0 o1 o2 o3 o4 s0 s1 s2 s3 s4 : Int32} (hL : own_z_LH lo hi) (ho : own_z_P o0 o1 o2 o3 o4) (h0 : own_z_r5 s0) (h1 : own_z_r5 s1) (h2 : own_z_r5 s2) (h3 : own_z_r5 s3) (h4 : own_z_r5 s4) : own_z_f5 lo hi (own_z_cat o0 o1 o2 o3 o4 s0) (own_z_cat o0 o1 o2 o3 o4 s1) (own_z_cat o0 o1 o2 o3 o4 s2) (own_z_cat o0 o1 o2 o3 o4 s3) (own_z_cat o0 o1 o2 o3 o4 s4) o0 o1 o2 o3 o4 = own_z_f5 lo hi s0 s1 s2 s3 s4 0 1 2 3 4 := by
  unfold own_z_f5; rw [own_z_tkq5 hL ho h0 h1 h2 h3 h4, own_z_fq4 hL ho h0 h1 h2 h3 h4]
theorem own_z_yq5_0 {lo hi o0 o1 o2 o3 o4 s0 s1 s2 s3 s4 : Int32} (hL : own_z_LH lo hi) (ho : own_z_P o0 o1 o2 o3 o4) (h0 : own_z_r5 s0) (h1 : own_z_r5 s1) (h2 : own_z_r5 s2) (h3 : own_z_r5 s3) (h4 : own_z_r5 s4) : own_z_y5_0 0 lo hi (own_z_cat o0 o1 o2 o3 o4 s0) (own_z_cat o0 o1 o2 o3 o4 s1) (own_z_cat o0 o1 o2 o3 o4 s2) (own_z_cat o0 o1 o2 o3 o4 s3) (own_z_cat o0 o1 o2 o3 o4 s4) o0 o1 o2 o3 o4 = (own_z_cat o0 o1 o2 o3 o4 (own_z_y5_0 5 lo hi s0 s1 s2 s3 s4 0 1 2 3 4)) := by
  unfold own_z_y5_0 own_z_ct5; rw [own_z_tkq5 hL ho h0 h1 h2 h3 h4, own_z_fq4 hL ho h0 h1 h2 h3 h4, own_z_yq4_0 hL ho h0 h1 h2 h3 h4, own_z_map, own_z_cid (own_z_rt5 hL)]
theorem own_z_yq5_1 {lo hi o0 o1 o2 o3 o4 s0 s1 s2 s3 s4 : Int32} (hL : own_z_LH lo hi) (ho : own_z_P o0 o1 o2 o3 o4) (h0 : own_z_r5 s0) (h1 : own_z_r5 s1) (h2 : own_z_r5 s2) (h3 : own_z_r5 s3) (h4 : own_z_r5 s4) : own_z_y5_1 0 lo hi (own_z_cat o0 o1 o2 o3 o4 s0) (own_z_cat o0 o1 o2 o3 o4 s1) (own_z_cat o0 o1 o2 o3 o4 s2) (own_z_cat o0 o1 o2 o3 o4 s3) (own_z_cat o0 o1 o2 o3 o4 s4) o0 o1 o2 o3 o4 = (own_z_cat o0 o1 o2 o3 o4 (own_z_y5_1 5 lo hi s0 s1 s2 s3 s4 0 1 2 3 4)) := by
  unfold own_z_y5_1 own_z_ct5; rw [own_z_tkq5 hL ho h0 h1 h2 h3 h4, own_z_fq4 hL ho h0 h1 h2 h3 h4, own_z_yq4_1 hL ho h0 h1 h2 h3 h4, own_z_map, own_z_cid (own_z_rt5 hL)]
theorem own_z_yq5_2 {lo hi o0 o1 o2 o3 o4 s0 s1 s2 s3 s4 : Int32} (hL : own_z_LH lo hi) (ho : own_z_P o0 o1 o2 o3 o4) (h0 : own_z_r5 s0) (h1 : own_z_r5 s1) (h2 : own_z_r5 s2) (h3 : own_z_r5 s3) (h4 : own_z_r5 s4) : own_z_y5_2 0 lo hi (own_z_cat o0 o1 o2 o3 o4 s0) (own_z_cat o0 o1 o2 o3 o4 s1) (own_z_cat o0 o1 o2 o3 o4 s2) (own_z_cat o0 o1 o2 o3 o4 s3) (own_z_cat o0 o1 o2 o3 o4 s4) o0 o1 o2 o3 o4 = (own_z_cat o0 o1 o2 o3 o4 (own_z_y5_2 5 lo hi s0 s1 s2 s3 s4 0 1 2 3 4)) := by
  unfold own_z_y5_2 own_z_ct5; rw [own_z_tkq5 hL ho h0 h1 h2 h3 h4, own_z_fq4 hL ho h0 h1 h2 h3 h4, own_z_yq4_2 hL ho h0 h1 h2 h3 h4, own_z_map, own_z_cid (own_z_rt5 hL)]
theorem own_z_yq5_3 {lo hi o0 o1 o2 o3 o4 s0 s1 s2 s3 s4 : Int32} (hL : own_z_LH lo hi) (ho : own_z_P o0 o1 o2 o3 o4) (h0 : own_z_r5 s0) (h1 : own_z_r5 s1) (h2 : own_z_r5 s2) (h3 : own_z_r5 s3) (h4 : own_z_r5 s4) : own_z_y5_3 0 lo hi (own_z_cat o0 o1 o2 o3 o4 s0) (own_z_cat o0 o1 o2 o3 o4 s1) (own_z_cat o0 o1 o2 o3 o4 s2) (own_z_cat o0 o1 o2 o3 o4 s3) (own_z_cat o0 o1 o2 o3 o4 s4) o0 o1 o2 o3 o4 = (own_z_cat o0 o1 o2 o3 o4 (own_z_y5_3 5 lo hi s0 s1 s2 s3 s4 0 1 2 3 4)) := by
  unfold own_z_y5_3 own_z_ct5; rw [own_z_tkq5 hL ho h0 h1 h2 h3 h4, own_z_fq4 hL ho h0 h1 h2 h3 h4, own_z_yq4_3 hL ho h0 h1 h2 h3 h4, own_z_map, own_z_cid (own_z_rt5 hL)]
theorem own_z_yq5_4 {lo hi o0 o1 o2 o3 o4 s0 s1 s2 s3 s4 : Int32} (hL : own_z_LH lo hi) (ho : own_z_P o0 o1 o2 o3 o4) (h0 : own_z_r5 s0) (h1 : own_z_r5 s1) (h2 : own_z_r5 s2) (h3 : own_z_r5 s3) (h4 : own_z_r5 s4) : own_z_y5_4 0 lo hi (own_z_cat o0 o1 o2 o3 o4 s0) (own_z_cat o0 o1 o2 o3 o4 s1) (own_z_cat o0 o1 o2 o3 o4 s2) (own_z_cat o0 o1 o2 o3 o4 s3) (own_z_cat o0 o1 o2 o3 o4 s4) o0 o1 o2 o3 o4 = (own_z_cat o0 o1 o2 o3 o4 (own_z_y5_4 5 lo hi s0 s1 s2 s3 s4 0 1 2 3 4)) := by
  unfold own_z_y5_4 own_z_ct5; rw [own_z_tkq5 hL ho h0 h1 h2 h3 h4, own_z_fq4 hL ho h0 h1 h2 h3 h4, own_z_yq4_4 hL ho h0 h1 h2 h3 h4, own_z_map, own_z_cid (own_z_rt5 hL)]
theorem own_z_rp1_0 {lo hi : Int32} (h : own_z_LH lo hi) : own_z_r5 ((hi + 1 + 0) % 5) := by rcases h with ⟨rfl, rfl⟩ | ⟨rfl, rfl⟩ | ⟨rfl, rfl⟩ | ⟨rfl, rfl⟩ | ⟨rfl, rfl⟩ | ⟨rfl, rfl⟩ | ⟨rfl, rfl⟩ | ⟨rfl, rfl⟩ | ⟨rfl, rfl⟩ | ⟨rfl, rfl⟩ | ⟨rfl, rfl⟩ | ⟨rfl, rfl⟩ | ⟨rfl, rfl⟩ | ⟨rfl, rfl⟩ | ⟨rfl, rfl⟩ <;> decide
theorem own_z_rp2_0 {lo hi : Int32} (h : own_z_LH lo hi) : own_z_r5 ((hi + 2 + 0) % 5) := by rcases h with ⟨rfl, rfl⟩ | ⟨rfl, rfl⟩ | ⟨rfl, rfl⟩ | ⟨rfl, rfl⟩ | ⟨rfl, rfl⟩ | ⟨rfl, rfl⟩ | ⟨rfl, rfl⟩ | ⟨rfl, rfl⟩ | ⟨rfl, rfl⟩ | ⟨rfl, rfl⟩ | ⟨rfl, rfl⟩ | ⟨rfl, rfl⟩ | ⟨rfl, rfl⟩ | ⟨rfl, rfl⟩ | ⟨rfl, rfl⟩ <;> decide
theorem own_z_rp1_1 {lo hi : Int32} (h : own_z_LH lo hi) : own_z_r5 ((hi + 1 + 1) % 5) := by rcases h with ⟨rfl, rfl⟩ | ⟨rfl, rfl⟩ | ⟨rfl, rfl⟩ | ⟨rfl, rfl⟩ | ⟨rfl, rfl⟩ | ⟨rfl, rfl⟩ | ⟨rfl, rfl⟩ | ⟨rfl, rfl⟩ | ⟨rfl, rfl⟩ | ⟨rfl, rfl⟩ | ⟨rfl, rfl⟩ | ⟨rfl, rfl⟩ | ⟨rfl, rfl⟩ | ⟨rfl, rfl⟩ | ⟨rfl, rfl⟩ <;> decide
theorem own_z_rp2_1 {lo hi : Int32} (h : own_z_LH lo hi) : own_z_r5 ((hi + 2 + 1) % 5) := by rcases h with ⟨rfl, rfl⟩ | ⟨rfl, rfl⟩ | ⟨rfl, rfl⟩ | ⟨rfl, rfl⟩ | ⟨rfl, rfl⟩ | ⟨rfl, rfl⟩ | ⟨rfl, rfl⟩ | ⟨rfl, rfl⟩ | ⟨rfl, rfl⟩ | ⟨rfl, rfl⟩ | ⟨rfl, rfl⟩ | ⟨rfl, rfl⟩ | ⟨rfl, rfl⟩ | ⟨rfl, rfl⟩ | ⟨rfl, rfl⟩ <;> decide
theorem own_z_rp1_2 {lo hi : Int32} (h : own_z_LH lo hi) : own_z_r5 ((hi + 1 + 2) % 5) := by rcases h with ⟨rfl, rfl⟩ | ⟨rfl, rfl⟩ | ⟨rfl, rfl⟩ | ⟨rfl, rfl⟩ | ⟨rfl, rfl⟩ | ⟨rfl, rfl⟩ | ⟨rfl, rfl⟩ | ⟨rfl, rfl⟩ | ⟨rfl, rfl⟩ | ⟨rfl, rfl⟩ | ⟨rfl, rfl⟩ | ⟨rfl, rfl⟩ | ⟨rfl, rfl⟩ | ⟨rfl, rfl⟩ | ⟨rfl, rfl⟩ <;> decide
theorem own_z_rp2_2 {lo hi : Int32} (h : own_z_LH lo hi) : own_z_r5 ((hi + 2 + 2) % 5) := by rcases h with ⟨rfl, rfl⟩ | ⟨rfl, rfl⟩ | ⟨rfl, rfl⟩ | ⟨rfl, rfl⟩ | ⟨rfl, rfl⟩ | ⟨rfl, rfl⟩ | ⟨rfl, rfl⟩ | ⟨rfl, rfl⟩ | ⟨rfl, rfl⟩ | ⟨rfl, rfl⟩ | ⟨rfl, rfl⟩ | ⟨rfl, rfl⟩ | ⟨rfl, rfl⟩ | ⟨rfl, rfl⟩ | ⟨rfl, rfl⟩ <;> decide
theorem own_z_rp1_3 {lo hi : Int32} (h : own_z_LH lo hi) : own_z_r5 ((hi + 1 + 3) % 5) := by rcases h with ⟨rfl, rfl⟩ | ⟨rfl, rfl⟩ | ⟨rfl, rfl⟩ | ⟨rfl, rfl⟩ | ⟨rfl, rfl⟩ | ⟨rfl, rfl⟩ | ⟨rfl, rfl⟩ | ⟨rfl, rfl⟩ | ⟨rfl, rfl⟩ | ⟨rfl, rfl⟩ | ⟨rfl, rfl⟩ | ⟨rfl, rfl⟩ | ⟨rfl, rfl⟩ | ⟨rfl, rfl⟩ | ⟨rfl, rfl⟩ <;> decide
theorem own_z_rp2_3 {lo hi : Int32} (h : own_z_LH lo hi) : own_z_r5 ((hi + 2 + 3) % 5) := by rcases h with ⟨rfl, rfl⟩ | ⟨rfl, rfl⟩ | ⟨rfl, rfl⟩ | ⟨rfl, rfl⟩ | ⟨rfl, rfl⟩ | ⟨rfl, rfl⟩ | ⟨rfl, rfl⟩ | ⟨rfl, rfl⟩ | ⟨rfl, rfl⟩ | ⟨rfl, rfl⟩ | ⟨rfl, rfl⟩ | ⟨rfl, rfl⟩ | ⟨rfl, rfl⟩ | ⟨rfl, rfl⟩ | ⟨rfl, rfl⟩ <;> decide
theorem own_z_cc {o0 o1 o2 o3 o4 t0 t1 t2 t3 t4 j : Int32} (hj : own_z_r5 j) : own_z_cat (own_z_cat o0 o1 o2 o3 o4 t0) (own_z_cat o0 o1 o2 o3 o4 t1) (own_z_cat o0 o1 o2 o3 o4 t2) (own_z_cat o0 o1 o2 o3 o4 t3) (own_z_cat o0 o1 o2 o3 o4 t4) j = own_z_cat o0 o1 o2 o3 o4 (own_z_cat t0 t1 t2 t3 t4 j) := by rcases hj with rfl | rfl | rfl | rfl | rfl <;> rfl
theorem own_z_in1 {o0 o1 o2 o3 o4 j : Int32} (h : own_z_P o0 o1 o2 o3 o4) (hj : own_z_r5 j) : own_z_inv o0 o1 o2 o3 o4 (own_z_cat o0 o1 o2 o3 o4 j) = j ∧ own_z_cat o0 o1 o2 o3 o4 (own_z_inv o0 o1 o2 o3 o4 j) = j ∧ own_z_r5 (own_z_inv o0 o1 o2 o3 o4 j) := by
  obtain ⟨j, rfl⟩ := own_z_fin hj
  exact own_z_inv1 h j
theorem own_z_plain {lo hi k0 k1 k2 k3 k4 o0 o1 o2 o3 o4 : Int32} (hL : own_z_LH lo hi) (hk : own_z_P k0 k1 k2 k3 k4) (ho : own_z_P o0 o1 o2 o3 o4) : own_z_P (own_z_y5_0 0 lo hi k0 k1 k2 k3 k4 o0 o1 o2 o3 o4) (own_z_y5_1 0 lo hi k0 k1 k2 k3 k4 o0 o1 o2 o3 o4) (own_z_y5_2 0 lo hi k0 k1 k2 k3 k4 o0 o1 o2 o3 o4) (own_z_y5_3 0 lo hi k0 k1 k2 k3 k4 o0 o1 o2 o3 o4) (own_z_y5_4 0 lo hi k0 k1 k2 k3 k4 o0 o1 o2 o3 o4) ∧ ((lo ≤ 0 → 0 ≤ hi → (own_z_y5_0 0 lo hi k0 k1 k2 k3 k4 o0 o1 o2 o3 o4) = k0) ∧ (lo ≤ 1 → 1 ≤ hi → (own_z_y5_1 0 lo hi k0 k1 k2 k3 k4 o0 o1 o2 o3 o4) = k1) ∧ (lo ≤ 2 → 2 ≤ hi → (own_z_y5_2 0 lo hi k0 k1 k2 k3 k4 o0 o1 o2 o3 o4) = k2) ∧ (lo ≤ 3 → 3 ≤ hi → (own_z_y5_3 0 lo hi k0 k1 k2 k3 k4 o0 o1 o2 o3 o4) = k3) ∧ (lo ≤ 4 → 4 ≤ hi → (own_z_y5_4 0 lo hi k0 k1 k2 k3 k4 o0 o1 o2 o3 o4) = k4)) ∧ (((1 : Int32) < 5 - (hi - lo + 1) → own_z_off (own_z_inv o0 o1 o2 o3 o4 (own_z_cat (own_z_y5_0 0 lo hi k0 k1 k2 k3 k4 o0 o1 o2 o3 o4) (own_z_y5_1 0 lo hi k0 k1 k2 k3 k4 o0 o1 o2 o3 o4) (own_z_y5_2 0 lo hi k0 k1 k2 k3 k4 o0 o1 o2 o3 o4) (own_z_y5_3 0 lo hi k0 k1 k2 k3 k4 o0 o1 o2 o3 o4) (own_z_y5_4 0 lo hi k0 k1 k2 k3 k4 o0 o1 o2 o3 o4) ((hi + 1 + 0) % 5))) hi < own_z_off (own_z_inv o0 o1 o2 o3 o4 (own_z_cat (own_z_y5_0 0 lo hi k0 k1 k2 k3 k4 o0 o1 o2 o3 o4) (own_z_y5_1 0 lo hi k0 k1 k2 k3 k4 o0 o1 o2 o3 o4) (own_z_y5_2 0 lo hi k0 k1 k2 k3 k4 o0 o1 o2 o3 o4) (own_z_y5_3 0 lo hi k0 k1 k2 k3 k4 o0 o1 o2 o3 o4) (own_z_y5_4 0 lo hi k0 k1 k2 k3 k4 o0 o1 o2 o3 o4) ((hi + 2 + 0) % 5))) hi) ∧ ((2 : Int32) < 5 - (hi - lo + 1) → own_z_off (own_z_inv o0 o1 o2 o3 o4 (own_z_cat (own_z_y5_0 0 lo hi k0 k1 k2 k3 k4 o0 o1 o2 o3 o4) (own_z_y5_1 0 lo hi k0 k1 k2 k3 k4 o0 o1 o2 o3 o4) (own_z_y5_2 0 lo hi k0 k1 k2 k3 k4 o0 o1 o2 o3 o4) (own_z_y5_3 0 lo hi k0 k1 k2 k3 k4 o0 o1 o2 o3 o4) (own_z_y5_4 0 lo hi k0 k1 k2 k3 k4 o0 o1 o2 o3 o4) ((hi + 1 + 1) % 5))) hi < own_z_off (own_z_inv o0 o1 o2 o3 o4 (own_z_cat (own_z_y5_0 0 lo hi k0 k1 k2 k3 k4 o0 o1 o2 o3 o4) (own_z_y5_1 0 lo hi k0 k1 k2 k3 k4 o0 o1 o2 o3 o4) (own_z_y5_2 0 lo hi k0 k1 k2 k3 k4 o0 o1 o2 o3 o4) (own_z_y5_3 0 lo hi k0 k1 k2 k3 k4 o0 o1 o2 o3 o4) (own_z_y5_4 0 lo hi k0 k1 k2 k3 k4 o0 o1 o2 o3 o4) ((hi + 2 + 1) % 5))) hi) ∧ ((3 : Int32) < 5 - (hi - lo + 1) → own_z_off (own_z_inv o0 o1 o2 o3 o4 (own_z_cat (own_z_y5_0 0 lo hi k0 k1 k2 k3 k4 o0 o1 o2 o3 o4) (own_z_y5_1 0 lo hi k0 k1 k2 k3 k4 o0 o1 o2 o3 o4) (own_z_y5_2 0 lo hi k0 k1 k2 k3 k4 o0 o1 o2 o3 o4) (own_z_y5_3 0 lo hi k0 k1 k2 k3 k4 o0 o1 o2 o3 o4) (own_z_y5_4 0 lo hi k0 k1 k2 k3 k4 o0 o1 o2 o3 o4) ((hi + 1 + 2) % 5))) hi < own_z_off (own_z_inv o0 o1 o2 o3 o4 (own_z_cat (own_z_y5_0 0 lo hi k0 k1 k2 k3 k4 o0 o1 o2 o3 o4) (own_z_y5_1 0 lo hi k0 k1 k2 k3 k4 o0 o1 o2 o3 o4) (own_z_y5_2 0 lo hi k0 k1 k2 k3 k4 o0 o1 o2 o3 o4) (own_z_y5_3 0 lo hi k0 k1 k2 k3 k4 o0 o1 o2 o3 o4) (own_z_y5_4 0 lo hi k0 k1 k2 k3 k4 o0 o1 o2 o3 o4) ((hi + 2 + 2) % 5))) hi) ∧ ((4 : Int32) < 5 - (hi - lo + 1) → own_z_off (own_z_inv o0 o1 o2 o3 o4 (own_z_cat (own_z_y5_0 0 lo hi k0 k1 k2 k3 k4 o0 o1 o2 o3 o4) (own_z_y5_1 0 lo hi k0 k1 k2 k3 k4 o0 o1 o2 o3 o4) (own_z_y5_2 0 lo hi k0 k1 k2 k3 k4 o0 o1 o2 o3 o4) (own_z_y5_3 0 lo hi k0 k1 k2 k3 k4 o0 o1 o2 o3 o4) (own_z_y5_4 0 lo hi k0 k1 k2 k3 k4 o0 o1 o2 o3 o4) ((hi + 1 + 3) % 5))) hi < own_z_off (own_z_inv o0 o1 o2 o3 o4 (own_z_cat (own_z_y5_0 0 lo hi k0 k1 k2 k3 k4 o0 o1 o2 o3 o4) (own_z_y5_1 0 lo hi k0 k1 k2 k3 k4 o0 o1 o2 o3 o4) (own_z_y5_2 0 lo hi k0 k1 k2 k3 k4 o0 o1 o2 o3 o4) (own_z_y5_3 0 lo hi k0 k1 k2 k3 k4 o0 o1 o2 o3 o4) (own_z_y5_4 0 lo hi k0 k1 k2 k3 k4 o0 o1 o2 o3 o4) ((hi + 2 + 3) % 5))) hi)) := by
  obtain ⟨⟨g0, g1, g2, g3, g4⟩, n01, n02, n03, n04, n12, n13, n14, n23, n24, n34⟩ := hk
  obtain ⟨s0, h0, rfl⟩ : ∃ s, own_z_r5 s ∧ k0 = (own_z_cat o0 o1 o2 o3 o4 s) := ⟨_, (own_z_in1 ho g0).2.2, (own_z_in1 ho g0).2.1.symm⟩
  obtain ⟨s1, h1, rfl⟩ : ∃ s, own_z_r5 s ∧ k1 = (own_z_cat o0 o1 o2 o3 o4 s) := ⟨_, (own_z_in1 ho g1).2.2, (own_z_in1 ho g1).2.1.symm⟩
  obtain ⟨s2, h2, rfl⟩ : ∃ s, own_z_r5 s ∧ k2 = (own_z_cat o0 o1 o2 o3 o4 s) := ⟨_, (own_z_in1 ho g2).2.2, (own_z_in1 ho g2).2.1.symm⟩
  obtain ⟨s3, h3, rfl⟩ : ∃ s, own_z_r5 s ∧ k3 = (own_z_cat o0 o1 o2 o3 o4 s) := ⟨_, (own_z_in1 ho g3).2.2, (own_z_in1 ho g3).2.1.symm⟩
  obtain ⟨s4, h4, rfl⟩ : ∃ s, own_z_r5 s ∧ k4 = (own_z_cat o0 o1 o2 o3 o4 s) := ⟨_, (own_z_in1 ho g4).2.2, (own_z_in1 ho g4).2.1.symm⟩
  have hP : own_z_P s0 s1 s2 s3 s4 := ⟨⟨h0, h1, h2, h3, h4⟩, fun e => n01 (by rw [e]), fun e => n02 (by rw [e]), fun e => n03 (by rw [e]), fun e => n04 (by rw [e]), fun e => n12 (by rw [e]), fun e => n13 (by rw [e]), fun e => n14 (by rw [e]), fun e => n23 (by rw [e]), fun e => n24 (by rw [e]), fun e => n34 (by rw [e])⟩
  obtain ⟨a1, ⟨b0, b1, b2, b3, b4⟩, c0, c1, c2, c3⟩ := own_z_ab hL hP
  rw [own_z_yq5_0 hL ho h0 h1 h2 h3 h4, own_z_yq5_1 hL ho h0 h1 h2 h3 h4, own_z_yq5_2 hL ho h0 h1 h2 h3 h4, own_z_yq5_3 hL ho h0 h1 h2 h3 h4, own_z_yq5_4 hL ho h0 h1 h2 h3 h4]
  obtain ⟨⟨r0, r1, r2, r3, r4⟩, m01, m02, m03, m04, m12, m13, m14, m23, m24, m34⟩ := a1
  refine ⟨⟨⟨own_z_cr ho r0, own_z_cr ho r1, own_z_cr ho r2, own_z_cr ho r3, own_z_cr ho r4⟩, fun e => m01 ((own_z_inj ho r0 r1).mp e), fun e => m02 ((own_z_inj ho r0 r2).mp e), fun e => m03 ((own_z_inj ho r0 r3).mp e), fun e => m04 ((own_z_inj ho r0 r4).mp e), fun e => m12 ((own_z_inj ho r1 r2).mp e), fun e => m13 ((own_z_inj ho r1 r3).mp e), fun e => m14 ((own_z_inj ho r1 r4).mp e), fun e => m23 ((own_z_inj ho r2 r3).mp e), fun e => m24 ((own_z_inj ho r2 r4).mp e), fun e => m34 ((own_z_inj ho r3 r4).mp e)⟩, ⟨fun x y => by rw [b0 x y], fun x y => by rw [b1 x y], fun x y => by rw [b2 x y], fun x y => by rw [b3 x y], fun x y => by rw [b4 x y]⟩, ?_, ?_, ?_, ?_⟩
  · intro x; rw [own_z_cc (own_z_rp1_0 hL), own_z_cc (own_z_rp2_0 hL), (own_z_in1 ho (own_z_cr (⟨⟨r0, r1, r2, r3, r4⟩, m01, m02, m03, m04, m12, m13, m14, m23, m24, m34⟩) (own_z_rp1_0 hL))).1, (own_z_in1 ho (own_z_cr (⟨⟨r0, r1, r2, r3, r4⟩, m01, m02, m03, m04, m12, m13, m14, m23, m24, m34⟩) (own_z_rp2_0 hL))).1]; exact c0 x
  · intro x; rw [own_z_cc (own_z_rp1_1 hL), own_z_cc (own_z_rp2_1 hL), (own_z_in1 ho (own_z_cr (⟨⟨r0, r1, r2, r3, r4⟩, m01, m02, m03, m04, m12, m13, m14, m23, m24, m34⟩) (own_z_rp1_1 hL))).1, (own_z_in1 ho (own_z_cr (⟨⟨r0, r1, r2, r3, r4⟩, m01, m02, m03, m04, m12, m13, m14, m23, m24, m34⟩) (own_z_rp2_1 hL))).1]; exact c1 x
  · intro x; rw [own_z_cc (own_z_rp1_2 hL), own_z_cc (own_z_rp2_2 hL), (own_z_in1 ho (own_z_cr (⟨⟨r0, r1, r2, r3, r4⟩, m01, m02, m03, m04, m12, m13, m14, m23, m24, m34⟩) (own_z_rp1_2 hL))).1, (own_z_in1 ho (own_z_cr (⟨⟨r0, r1, r2, r3, r4⟩, m01, m02, m03, m04, m12, m13, m14, m23, m24, m34⟩) (own_z_rp2_2 hL))).1]; exact c2 x
  · intro x; rw [own_z_cc (own_z_rp1_3 hL), own_z_cc (own_z_rp2_3 hL), (own_z_in1 ho (own_z_cr (⟨⟨r0, r1, r2, r3, r4⟩, m01, m02, m03, m04, m12, m13, m14, m23, m24, m34⟩) (own_z_rp1_3 hL))).1, (own_z_in1 ho (own_z_cr (⟨⟨r0, r1, r2, r3, r4⟩, m01, m02, m03, m04, m12, m13, m14, m23, m24, m34⟩) (own_z_rp2_3 hL))).1]; exact c3 x
theorem own_nn5 {j : Int32} (h : own_z_r5 j) : ¬ j < 0 := by rcases h with rfl | rfl | rfl | rfl | rfl <;> decide
theorem own_lt5 {j : Int32} (h : own_z_r5 j) : j.toNatClampNeg < 5 := by rcases h with rfl | rfl | rfl | rfl | rfl <;> decide
theorem own_cat5V {a0 a1 a2 a3 a4 j : Int32} (h : own_z_r5 j) : ([.int a0, .int a1, .int a2, .int a3, .int a4] : List Value)[j.toNatClampNeg]? = some (.int (own_z_cat a0 a1 a2 a3 a4 j)) := by
  rcases h with rfl | rfl | rfl | rfl | rfl <;> rfl
theorem own_set5 {a0 a1 a2 a3 a4 j v : Int32} (h : own_z_r5 j) : ([.int a0, .int a1, .int a2, .int a3, .int a4] : List Value).set j.toNatClampNeg (.int v) = [.int (own_z_up j 0 v a0), .int (own_z_up j 1 v a1), .int (own_z_up j 2 v a2), .int (own_z_up j 3 v a3), .int (own_z_up j 4 v a4)] := by
  rcases h with rfl | rfl | rfl | rfl | rfl <;> rfl
theorem own_bV {lo hi k0 k1 k2 k3 k4 j : Int32} (h : own_z_r5 j) : ([.int (own_z_b lo hi k0 k1 k2 k3 k4 0), .int (own_z_b lo hi k0 k1 k2 k3 k4 1), .int (own_z_b lo hi k0 k1 k2 k3 k4 2), .int (own_z_b lo hi k0 k1 k2 k3 k4 3), .int (own_z_b lo hi k0 k1 k2 k3 k4 4)] : List Value)[j.toNatClampNeg]? = some (.int (own_z_b lo hi k0 k1 k2 k3 k4 j)) := by
  rcases h with rfl | rfl | rfl | rfl | rfl <;> rfl
theorem own_r5of {j : Int32} (h0 : 0 ≤ j.toInt) (h1 : j.toInt < 5) : own_z_r5 j := by
  unfold own_z_r5; simp only [← Int32.toInt_inj, Int32.reduceToInt]; omega
theorem own_nz_mask (x : Int32) : 0 ≤ (x &&& (2147483647 : Int32)).toInt := by
  have h := c_mask x 2147483647 31 (by decide) (by decide)
  rw [h]; omega
theorem own_r5r (x y : Int32) (d : Int) (hx : 0 ≤ x.toInt) (hy : y.toInt = d) (hd : 0 < d ∧ d ≤ 5) : own_z_r5 (x % y) ∧ (x % y).toInt < d := by
  have h := (c_irem x y d hy).1 hx
  have a := Int.emod_nonneg x.toInt (b := d) (by omega)
  have b := Int.emod_lt_of_pos x.toInt (b := d) hd.1
  exact ⟨own_r5of (by omega) (by omega), by omega⟩
theorem own_dv (x y : Int32) (d : Int) (hx : 0 ≤ x.toInt) (hy : y.toInt = d) (h1 : y ≠ -1) (hd : 0 < d) : 0 ≤ (x / y).toInt := by
  rw [(c_idiv x y d hy h1).1 hx]; exact Int.ediv_nonneg hx (by omega)
theorem own_j4 (x : Int32) : own_z_r5 ((x &&& (2147483647 : Int32)) % 5) := (own_r5r _ 5 5 (own_nz_mask x) (by decide) (by decide)).1
theorem own_d5 (x : Int32) : 0 ≤ ((x &&& (2147483647 : Int32)) / 5).toInt := own_dv _ 5 5 (own_nz_mask x) (by decide) (by decide) (by decide)
theorem own_j3 (x : Int32) : own_z_r5 (((x &&& (2147483647 : Int32)) / 5) % 4) := (own_r5r _ 4 4 (own_d5 x) (by decide) (by decide)).1
theorem own_d4 (x : Int32) : 0 ≤ ((x &&& (2147483647 : Int32)) / 5 / 4).toInt := own_dv _ 4 4 (own_d5 x) (by decide) (by decide) (by decide)
theorem own_j2 (x : Int32) : own_z_r5 (((x &&& (2147483647 : Int32)) / 5 / 4) % 3) := (own_r5r _ 3 3 (own_d4 x) (by decide) (by decide)).1
theorem own_d3 (x : Int32) : 0 ≤ ((x &&& (2147483647 : Int32)) / 5 / 4 / 3).toInt := own_dv _ 3 3 (own_d4 x) (by decide) (by decide) (by decide)
theorem own_j1 (x : Int32) : own_z_r5 (((x &&& (2147483647 : Int32)) / 5 / 4 / 3) % 2) := (own_r5r _ 2 2 (own_d3 x) (by decide) (by decide)).1
theorem own_nz5 (x : Int32) : (5 : Int32) - ((x &&& (2147483647 : Int32)) % 5) ≠ 0 := by
  rcases own_j4 x with h | h | h | h | h <;> rw [h] <;> decide
theorem own_small {j : Int32} (h : own_z_r5 j) (d : Int) (hd : j.toInt < d) : (d = 5 → own_z_LH 0 (0 + j)) ∧ (d = 4 → own_z_LH 1 (1 + j)) ∧ (d = 3 → own_z_LH 2 (2 + j)) ∧ (d = 2 → own_z_LH 3 (3 + j)) ∧ (d = 1 → own_z_LH 4 (4 + j)) := by
  unfold own_z_LH
  rcases h with rfl | rfl | rfl | rfl | rfl <;> simp only [Int32.reduceToInt] at hd <;> refine ⟨fun e => ?_, fun e => ?_, fun e => ?_, fun e => ?_, fun e => ?_⟩ <;> subst e <;> first | exact absurd hd (by decide) | decide
theorem own_lh (x y : Int32) : own_z_LH ((x &&& (2147483647 : Int32)) % 5) ((x &&& (2147483647 : Int32)) % 5 + (y &&& (2147483647 : Int32)) % ((5 : Int32) - ((x &&& (2147483647 : Int32)) % 5))) := by
  rcases own_j4 x with h | h | h | h | h <;> rw [h]
  · have r := own_r5r _ (5 - 0) 5 (own_nz_mask y) (by decide) (by decide); exact (own_small r.1 5 r.2).1 rfl
  · have r := own_r5r _ (5 - 1) 4 (own_nz_mask y) (by decide) (by decide); exact (own_small r.1 4 r.2).2.1 rfl
  · have r := own_r5r _ (5 - 2) 3 (own_nz_mask y) (by decide) (by decide); exact (own_small r.1 3 r.2).2.2.1 rfl
  · have r := own_r5r _ (5 - 3) 2 (own_nz_mask y) (by decide) (by decide); exact (own_small r.1 2 r.2).2.2.2.1 rfl
  · have r := own_r5r _ (5 - 4) 1 (own_nz_mask y) (by decide) (by decide); exact (own_small r.1 1 r.2).2.2.2.2 rfl
theorem own_fnN {tk f : Int32} (h : ¬ tk = 0) : f = own_z_fn tk f := (if_neg h).symm
theorem own_fnY {tk f : Int32} (h : tk = 0) : (f + 1) % 5 = own_z_fn tk f := (if_pos h).symm
theorem own_ynN {tk f q ct y : Int32} (h : ¬ tk = 0) : y = own_z_yn tk f q ct y := (if_neg h).symm
theorem own_ynY {tk f q ct y : Int32} (h : tk = 0) : own_z_up f q ct y = own_z_yn tk f q ct y := (if_pos h).symm
theorem own_rfn {tk f : Int32} (h : own_z_r5 f) : own_z_r5 (own_z_fn tk f) := by
  unfold own_z_fn; split
  · rcases h with rfl | rfl | rfl | rfl | rfl <;> decide
  · exact h
def own_sw4_0 (p3 b0 b1 b2 b3 b4 : Int32) : Int32 := own_z_up p3 0 b4 b0
def own_sw4_1 (p3 b0 b1 b2 b3 b4 : Int32) : Int32 := own_z_up p3 1 b4 b1
def own_sw4_2 (p3 b0 b1 b2 b3 b4 : Int32) : Int32 := own_z_up p3 2 b4 b2
def own_sw4_3 (p3 b0 b1 b2 b3 b4 : Int32) : Int32 := own_z_up p3 3 b4 b3
def own_sw4_4 (p3 b0 b1 b2 b3 b4 : Int32) : Int32 := own_z_up p3 4 b4 (own_z_cat b0 b1 b2 b3 b4 p3)
theorem own_pn0 : plainName "com/example/tourloom/tourloom/GeneticOperatorsOrderCrossoverPinLaw" = true := by first | (simp [plainName, overriddenIn]; done) | decide +kernel
theorem own_ef2_k4 (m : MethodId) (a1 : Addr) (p3 : Int32) : entryFrame m #[.ref a1, .int (4 : Int32), .int p3] 4 = mkF m 0 #[.val (.ref a1), .val (.int (4 : Int32)), .val (.int p3), .unset] [] := by first | (simp [entryFrame, mkF, argsToLocals, Value.category]; done) | rfl
theorem own_d2_0 : decode method_4_code 0 = .ok (.aload_n 0, 1) := by decide +kernel
theorem own_d2_1 : decode method_4_code 1 = .ok (.iload_n 1, 1) := by decide +kernel
theorem own_d2_2 : decode method_4_code 2 = .ok (.iaload, 1) := by decide +kernel
theorem own_d2_3 : decode method_4_code 3 = .ok (.istore_n 3, 1) := by decide +kernel
theorem own_d2_4 : decode method_4_code 4 = .ok (.aload_n 0, 1) := by decide +kernel
theorem own_d2_5 : decode method_4_code 5 = .ok (.iload_n 1, 1) := by decide +kernel
theorem own_d2_6 : decode method_4_code 6 = .ok (.aload_n 0, 1) := by decide +kernel
theorem own_d2_7 : decode method_4_code 7 = .ok (.iload_n 2, 1) := by decide +kernel
theorem own_d2_8 : decode method_4_code 8 = .ok (.iaload, 1) := by decide +kernel
theorem own_d2_9 : decode method_4_code 9 = .ok (.iastore, 1) := by decide +kernel
theorem own_d2_10 : decode method_4_code 10 = .ok (.aload_n 0, 1) := by decide +kernel
theorem own_d2_11 : decode method_4_code 11 = .ok (.iload_n 2, 1) := by decide +kernel
theorem own_d2_12 : decode method_4_code 12 = .ok (.iload_n 3, 1) := by decide +kernel
theorem own_d2_13 : decode method_4_code 13 = .ok (.iastore, 1) := by decide +kernel
theorem own_d2_14 : decode method_4_code 14 = .ok (.return_, 1) := by decide +kernel
def own_Q2_4 (Z : State) (a1 : Addr) (p3 : Int32) (b0 : Int32) (b1 : Int32) (b2 : Int32) (b3 : Int32) (b4 : Int32) (h0 : Heap) (n0 : Nat) (v : Option Value) (h : Heap) (L : List Loc) : Prop := v = none ∧ Fr n0 L ∧ Keep h0 h [a1] ∧ own_A Z h a1 .int [.int (own_sw4_0 p3 b0 b1 b2 b3 b4), .int (own_sw4_1 p3 b0 b1 b2 b3 b4), .int (own_sw4_2 p3 b0 b1 b2 b3 b4), .int (own_sw4_3 p3 b0 b1 b2 b3 b4), .int (own_sw4_4 p3 b0 b1 b2 b3 b4)]
set_option maxRecDepth 65536 in
set_option maxHeartbeats 40000000 in
theorem rm2_4 (l : Launch) (Z : State) (a0 : Array Value) (hw : ∀ d ∈ tables_1, d.before a0 Z = true) (ws : List Jvm.Cond) (a1 : Addr) (p3 : Int32) (b0 : Int32) (b1 : Int32) (b2 : Int32) (b3 : Int32) (b4 : Int32) (h0 : Heap) (n0 : Nat) (V0p : own_A Z h0 a1 .int [.int b0, .int b1, .int b2, .int b3, .int b4]) (G_a1 : n0 ≤ a1) (hj : own_z_r5 p3) :
    MetFree l (⟨"com/example/tourloom/tourloom/GeneticOperatorsOrderCrossoverPinLaw", "swap", "([III)V"⟩ : MethodName) (head1 (Jvm.Cond.code (⟨"com/example/tourloom/tourloom/GeneticOperatorsOrderCrossoverPinLaw", "swap", "([III)V"⟩ : MethodName) method_4_code 4 none :: ws) ({ frames := 0, cells := 0, slots := 0, locals := 0 } : Room)) (fun a U => a = #[.ref a1, .int (4 : Int32), .int p3] ∧ Z.Warmed39 U.vm ∧ U.heap = h0) (fun _ _ _ _ _ => True) (fun _ U o U' => ∃ v L, o = .returned v ∧ own_Q2_4 Z a1 p3 b0 b1 b2 b3 b4 h0 n0 v U'.heap L ∧ FrameEnd U o U' L ({ frames := 0, cells := 0, slots := 0, locals := 0 } : Room).cells ({ frames := 0, cells := 0, slots := 0, locals := 0 } : Room).slots) := by
  refine MetFree.of_bodySF (plainFor_of_name own_pn0) hisR ?_
  intro p e s m args below meth c s₁ Bd hml0 hP hK
  obtain ⟨rfl, hZ, hh⟩ := hP
  have hx := Bd.exec
  have hby := Bd.bytes
  have hml : c.maxLocals = 4 := hml0
  have hown : s.vm.findClass "com/example/tourloom/tourloom/GeneticOperatorsOrderCrossoverPinLaw" = some m.cls := findClass_of_methodNamed Bd.named
  have hnm := (name_of_methodNamed Bd.named Bd.method).1
  have hlk : meth.locks = false := BodyLoose.notSynchronized Bd
  have X0 : Stand p l e ({ frames := 0, cells := 0, slots := 0, locals := 0 } : Room) s m #[.ref a1, .int (4 : Int32), .int p3] below meth c s₁ [] 0 0 := Stand.of_body Bd
  have e0 : s₁.heap = h0 := by rw [← hh, Bd.state]; rfl
  have N0 := Fr.nil n0
  have K0 := Keep.refl h0 [a1]
  show own_Go p e below (own_E s 0 0 (own_Q2_4 Z a1 p3 b0 b1 b2 b3 b4 h0 n0)) (s₁.setTop (entryFrame m #[.ref a1, .int (4 : Int32), .int p3] 4))
  rw [own_ef2_k4]
  refine own_aloadN X0 hx (hb hby own_d2_0) (q := 1) rfl rfl rfl ?_
  refine own_iloadN X0 hx (hb hby own_d2_1) (q := 2) rfl rfl ?_
  refine own_iaload X0 hx hZ (i := 4) (v := .int b4) e0 V0p (by decide) (by decide) rfl (hb hby own_d2_2) (q := 3) rfl ?_
  refine own_istoreN (L' := #[.val (.ref a1), .val (.int (4 : Int32)), .val (.int p3), .val (.int b4)]) X0 hx (hb hby own_d2_3) (q := 4) rfl rfl ?_
  refine own_aloadN X0 hx (hb hby own_d2_4) (q := 5) rfl rfl rfl ?_
  refine own_iloadN X0 hx (hb hby own_d2_5) (q := 6) rfl rfl ?_
  refine own_aloadN X0 hx (hb hby own_d2_6) (q := 7) rfl rfl rfl ?_
  refine own_iloadN X0 hx (hb hby own_d2_7) (q := 8) rfl rfl ?_
  refine own_iaload X0 hx hZ (i := (p3).toNatClampNeg) (v := .int (own_z_cat b0 b1 b2 b3 b4 p3)) e0 V0p (own_nn5 hj) rfl (own_cat5V hj) (hb hby own_d2_8) (q := 9) rfl ?_
  refine own_iastore X0 hx hZ (i := 4) e0 V0p (by decide) (by decide) (Nat.le_of_ble_eq_true rfl) (hb hby own_d2_9) (q := 10) rfl (fun T1 h4 X2 e3 W5 A6 => ?_)
  replace A6 : own_A Z h4 a1 .int [.int b0, .int b1, .int b2, .int b3, .int (own_z_cat b0 b1 b2 b3 b4 p3)] := A6
  have K7 := K0.wr W5 (Or.inl (List.mem_of_getElem? (i := 0) rfl))
  have N8 := Fr.snoc X2 N0 G_a1
  refine own_aloadN X2 hx (hb hby own_d2_10) (q := 11) rfl rfl rfl ?_
  refine own_iloadN X2 hx (hb hby own_d2_11) (q := 12) rfl rfl ?_
  refine own_iloadN X2 hx (hb hby own_d2_12) (q := 13) rfl rfl ?_
  refine own_iastore X2 hx hZ (i := (p3).toNatClampNeg) e3 A6 (own_nn5 hj) rfl (own_lt5 hj) (hb hby own_d2_13) (q := 14) rfl (fun T9 h12 X10 e11 W13 A14 => ?_)
  replace A14 : own_A Z h12 a1 .int [.int (own_sw4_0 p3 b0 b1 b2 b3 b4), .int (own_sw4_1 p3 b0 b1 b2 b3 b4), .int (own_sw4_2 p3 b0 b1 b2 b3 b4), .int (own_sw4_3 p3 b0 b1 b2 b3 b4), .int (own_sw4_4 p3 b0 b1 b2 b3 b4)] := by rw [own_set5 hj] at A14; exact A14
  have K15 := K7.wr W13 (Or.inl (List.mem_of_getElem? (i := 0) rfl))
  have N16 := Fr.snoc X10 N8 G_a1
  refine own_retV X10 hx hlk (rest := []) Bd.returns (hb hby own_d2_14) ?_ (by decide) (by decide)
  show own_Q2_4 Z a1 p3 b0 b1 b2 b3 b4 h0 n0 _ T9.heap _
  rw [e11]
  exact ⟨rfl, N16, K15, A14⟩
set_option maxRecDepth 100000 in
set_option maxHeartbeats 4000000 in
theorem own_swP4 {j b0 b1 b2 b3 b4 : Int32} (hj : own_z_r5 j) (h : own_z_P b0 b1 b2 b3 b4) : own_z_P (own_sw4_0 j b0 b1 b2 b3 b4) (own_sw4_1 j b0 b1 b2 b3 b4) (own_sw4_2 j b0 b1 b2 b3 b4) (own_sw4_3 j b0 b1 b2 b3 b4) (own_sw4_4 j b0 b1 b2 b3 b4) := by
  obtain ⟨i, rfl⟩ := own_z_fin hj
  exact own_z_pind (fun b0 b1 b2 b3 b4 => ∀ i : Fin 5, own_z_P (own_sw4_0 (Int32.ofNat i.val) b0 b1 b2 b3 b4) (own_sw4_1 (Int32.ofNat i.val) b0 b1 b2 b3 b4) (own_sw4_2 (Int32.ofNat i.val) b0 b1 b2 b3 b4) (own_sw4_3 (Int32.ofNat i.val) b0 b1 b2 b3 b4) (own_sw4_4 (Int32.ofNat i.val) b0 b1 b2 b3 b4)) (by decide +kernel) h i
def own_sw3_0 (p3 b0 b1 b2 b3 b4 : Int32) : Int32 := own_z_up p3 0 b3 b0
def own_sw3_1 (p3 b0 b1 b2 b3 b4 : Int32) : Int32 := own_z_up p3 1 b3 b1
def own_sw3_2 (p3 b0 b1 b2 b3 b4 : Int32) : Int32 := own_z_up p3 2 b3 b2
def own_sw3_3 (p3 b0 b1 b2 b3 b4 : Int32) : Int32 := own_z_up p3 3 b3 (own_z_cat b0 b1 b2 b3 b4 p3)
def own_sw3_4 (p3 b0 b1 b2 b3 b4 : Int32) : Int32 := own_z_up p3 4 b3 b4
theorem own_ef2_k3 (m : MethodId) (a1 : Addr) (p3 : Int32) : entryFrame m #[.ref a1, .int (3 : Int32), .int p3] 4 = mkF m 0 #[.val (.ref a1), .val (.int (3 : Int32)), .val (.int p3), .unset] [] := by first | (simp [entryFrame, mkF, argsToLocals, Value.category]; done) | rfl

def own_Q2_3 (Z : State) (a1 : Addr) (p3 : Int32) (b0 : Int32) (b1 : Int32) (b2 : Int32) (b3 : Int32) (b4 : Int32) (h0 : Heap) (n0 : Nat) (v : Option Value) (h : Heap) (L : List Loc) : Prop := v = none ∧ Fr n0 L ∧ Keep h0 h [a1] ∧ own_A Z h a1 .int [.int (own_sw3_0 p3 b0 b1 b2 b3 b4), .int (own_sw3_1 p3 b0 b1 b2 b3 b4), .int (own_sw3_2 p3 b0 b1 b2 b3 b4), .int (own_sw3_3 p3 b0 b1 b2 b3 b4), .int (own_sw3_4 p3 b0 b1 b2 b3 b4)]
set_option maxRecDepth 65536 in
set_option maxHeartbeats 40000000 in
theorem rm2_3 (l : Launch) (Z : State) (a0 : Array Value) (hw : ∀ d ∈ tables_1, d.before a0 Z = true) (ws : List Jvm.Cond) (a1 : Addr) (p3 : Int32) (b0 : Int32) (b1 : Int32) (b2 : Int32) (b3 : Int32) (b4 : Int32) (h0 : Heap) (n0 : Nat) (V0p : own_A Z h0 a1 .int [.int b0, .int b1, .int b2, .int b3, .int b4]) (G_a1 : n0 ≤ a1) (hj : own_z_r5 p3) :
    MetFree l (⟨"com/example/tourloom/tourloom/GeneticOperatorsOrderCrossoverPinLaw", "swap", "([III)V"⟩ : MethodName) (head1 (Jvm.Cond.code (⟨"com/example/tourloom/tourloom/GeneticOperatorsOrderCrossoverPinLaw", "swap", "([III)V"⟩ : MethodName) method_4_code 4 none :: ws) ({ frames := 0, cells := 0, slots := 0, locals := 0 } : Room)) (fun a U => a = #[.ref a1, .int (3 : Int32), .int p3] ∧ Z.Warmed39 U.vm ∧ U.heap = h0) (fun _ _ _ _ _ => True) (fun _ U o U' => ∃ v L, o = .returned v ∧ own_Q2_3 Z a1 p3 b0 b1 b2 b3 b4 h0 n0 v U'.heap L ∧ FrameEnd U o U' L ({ frames := 0, cells := 0, slots := 0, locals := 0 } : Room).cells ({ frames := 0, cells := 0, slots := 0, locals := 0 } : Room).slots) := by
  refine MetFree.of_bodySF (plainFor_of_name own_pn0) hisR ?_
  intro p e s m args below meth c s₁ Bd hml0 hP hK
  obtain ⟨rfl, hZ, hh⟩ := hP
  have hx := Bd.exec
  have hby := Bd.bytes
  have hml : c.maxLocals = 4 := hml0
  have hown : s.vm.findClass "com/example/tourloom/tourloom/GeneticOperatorsOrderCrossoverPinLaw" = some m.cls := findClass_of_methodNamed Bd.named
  have hnm := (name_of_methodNamed Bd.named Bd.method).1
  have hlk : meth.locks = false := BodyLoose.notSynchronized Bd
  have X0 : Stand p l e ({ frames := 0, cells := 0, slots := 0, locals := 0 } : Room) s m #[.ref a1, .int (3 : Int32), .int p3] below meth c s₁ [] 0 0 := Stand.of_body Bd
  have e0 : s₁.heap = h0 := by rw [← hh, Bd.state]; rfl
  have N0 := Fr.nil n0
  have K0 := Keep.refl h0 [a1]
  show own_Go p e below (own_E s 0 0 (own_Q2_3 Z a1 p3 b0 b1 b2 b3 b4 h0 n0)) (s₁.setTop (entryFrame m #[.ref a1, .int (3 : Int32), .int p3] 4))
  rw [own_ef2_k3]
  refine own_aloadN X0 hx (hb hby own_d2_0) (q := 1) rfl rfl rfl ?_
  refine own_iloadN X0 hx (hb hby own_d2_1) (q := 2) rfl rfl ?_
  refine own_iaload X0 hx hZ (i := 3) (v := .int b3) e0 V0p (by decide) (by decide) rfl (hb hby own_d2_2) (q := 3) rfl ?_
  refine own_istoreN (L' := #[.val (.ref a1), .val (.int (3 : Int32)), .val (.int p3), .val (.int b3)]) X0 hx (hb hby own_d2_3) (q := 4) rfl rfl ?_
  refine own_aloadN X0 hx (hb hby own_d2_4) (q := 5) rfl rfl rfl ?_
  refine own_iloadN X0 hx (hb hby own_d2_5) (q := 6) rfl rfl ?_
  refine own_aloadN X0 hx (hb hby own_d2_6) (q := 7) rfl rfl rfl ?_
  refine own_iloadN X0 hx (hb hby own_d2_7) (q := 8) rfl rfl ?_
  refine own_iaload X0 hx hZ (i := (p3).toNatClampNeg) (v := .int (own_z_cat b0 b1 b2 b3 b4 p3)) e0 V0p (own_nn5 hj) rfl (own_cat5V hj) (hb hby own_d2_8) (q := 9) rfl ?_
  refine own_iastore X0 hx hZ (i := 3) e0 V0p (by decide) (by decide) (Nat.le_of_ble_eq_true rfl) (hb hby own_d2_9) (q := 10) rfl (fun T17 h20 X18 e19 W21 A22 => ?_)
  replace A22 : own_A Z h20 a1 .int [.int b0, .int b1, .int b2, .int (own_z_cat b0 b1 b2 b3 b4 p3), .int b4] := A22
  have K23 := K0.wr W21 (Or.inl (List.mem_of_getElem? (i := 0) rfl))
  have N24 := Fr.snoc X18 N0 G_a1
  refine own_aloadN X18 hx (hb hby own_d2_10) (q := 11) rfl rfl rfl ?_
  refine own_iloadN X18 hx (hb hby own_d2_11) (q := 12) rfl rfl ?_
  refine own_iloadN X18 hx (hb hby own_d2_12) (q := 13) rfl rfl ?_
  refine own_iastore X18 hx hZ (i := (p3).toNatClampNeg) e19 A22 (own_nn5 hj) rfl (own_lt5 hj) (hb hby own_d2_13) (q := 14) rfl (fun T25 h28 X26 e27 W29 A30 => ?_)
  replace A30 : own_A Z h28 a1 .int [.int (own_sw3_0 p3 b0 b1 b2 b3 b4), .int (own_sw3_1 p3 b0 b1 b2 b3 b4), .int (own_sw3_2 p3 b0 b1 b2 b3 b4), .int (own_sw3_3 p3 b0 b1 b2 b3 b4), .int (own_sw3_4 p3 b0 b1 b2 b3 b4)] := by rw [own_set5 hj] at A30; exact A30
  have K31 := K23.wr W29 (Or.inl (List.mem_of_getElem? (i := 0) rfl))
  have N32 := Fr.snoc X26 N24 G_a1
  refine own_retV X26 hx hlk (rest := []) Bd.returns (hb hby own_d2_14) ?_ (by decide) (by decide)
  show own_Q2_3 Z a1 p3 b0 b1 b2 b3 b4 h0 n0 _ T25.heap _
  rw [e27]
  exact ⟨rfl, N32, K31, A30⟩
set_option maxRecDepth 100000 in
set_option maxHeartbeats 4000000 in
theorem own_swP3 {j b0 b1 b2 b3 b4 : Int32} (hj : own_z_r5 j) (h : own_z_P b0 b1 b2 b3 b4) : own_z_P (own_sw3_0 j b0 b1 b2 b3 b4) (own_sw3_1 j b0 b1 b2 b3 b4) (own_sw3_2 j b0 b1 b2 b3 b4) (own_sw3_3 j b0 b1 b2 b3 b4) (own_sw3_4 j b0 b1 b2 b3 b4) := by
  obtain ⟨i, rfl⟩ := own_z_fin hj
  exact own_z_pind (fun b0 b1 b2 b3 b4 => ∀ i : Fin 5, own_z_P (own_sw3_0 (Int32.ofNat i.val) b0 b1 b2 b3 b4) (own_sw3_1 (Int32.ofNat i.val) b0 b1 b2 b3 b4) (own_sw3_2 (Int32.ofNat i.val) b0 b1 b2 b3 b4) (own_sw3_3 (Int32.ofNat i.val) b0 b1 b2 b3 b4) (own_sw3_4 (Int32.ofNat i.val) b0 b1 b2 b3 b4)) (by decide +kernel) h i
def own_sw2_0 (p3 b0 b1 b2 b3 b4 : Int32) : Int32 := own_z_up p3 0 b2 b0
def own_sw2_1 (p3 b0 b1 b2 b3 b4 : Int32) : Int32 := own_z_up p3 1 b2 b1
def own_sw2_2 (p3 b0 b1 b2 b3 b4 : Int32) : Int32 := own_z_up p3 2 b2 (own_z_cat b0 b1 b2 b3 b4 p3)
def own_sw2_3 (p3 b0 b1 b2 b3 b4 : Int32) : Int32 := own_z_up p3 3 b2 b3
def own_sw2_4 (p3 b0 b1 b2 b3 b4 : Int32) : Int32 := own_z_up p3 4 b2 b4
theorem own_ef2_k2 (m : MethodId) (a1 : Addr) (p3 : Int32) : entryFrame m #[.ref a1, .int (2 : Int32), .int p3] 4 = mkF m 0 #[.val (.ref a1), .val (.int (2 : Int32)), .val (.int p3), .unset] [] := by first | (simp [entryFrame, mkF, argsToLocals, Value.category]; done) | rfl

def own_Q2_2 (Z : State) (a1 : Addr) (p3 : Int32) (b0 : Int32) (b1 : Int32) (b2 : Int32) (b3 : Int32) (b4 : Int32) (h0 : Heap) (n0 : Nat) (v : Option Value) (h : Heap) (L : List Loc) : Prop := v = none ∧ Fr n0 L ∧ Keep h0 h [a1] ∧ own_A Z h a1 .int [.int (own_sw2_0 p3 b0 b1 b2 b3 b4), .int (own_sw2_1 p3 b0 b1 b2 b3 b4), .int (own_sw2_2 p3 b0 b1 b2 b3 b4), .int (own_sw2_3 p3 b0 b1 b2 b3 b4), .int (own_sw2_4 p3 b0 b1 b2 b3 b4)]
set_option maxRecDepth 65536 in
set_option maxHeartbeats 40000000 in
theorem rm2_2 (l : Launch) (Z : State) (a0 : Array Value) (hw : ∀ d ∈ tables_1, d.before a0 Z = true) (ws : List Jvm.Cond) (a1 : Addr) (p3 : Int32) (b0 : Int32) (b1 : Int32) (b2 : Int32) (b3 : Int32) (b4 : Int32) (h0 : Heap) (n0 : Nat) (V0p : own_A Z h0 a1 .int [.int b0, .int b1, .int b2, .int b3, .int b4]) (G_a1 : n0 ≤ a1) (hj : own_z_r5 p3) :
    MetFree l (⟨"com/example/tourloom/tourloom/GeneticOperatorsOrderCrossoverPinLaw", "swap", "([III)V"⟩ : MethodName) (head1 (Jvm.Cond.code (⟨"com/example/tourloom/tourloom/GeneticOperatorsOrderCrossoverPinLaw", "swap", "([III)V"⟩ : MethodName) method_4_code 4 none :: ws) ({ frames := 0, cells := 0, slots := 0, locals := 0 } : Room)) (fun a U => a = #[.ref a1, .int (2 : Int32), .int p3] ∧ Z.Warmed39 U.vm ∧ U.heap = h0) (fun _ _ _ _ _ => True) (fun _ U o U' => ∃ v L, o = .returned v ∧ own_Q2_2 Z a1 p3 b0 b1 b2 b3 b4 h0 n0 v U'.heap L ∧ FrameEnd U o U' L ({ frames := 0, cells := 0, slots := 0, locals := 0 } : Room).cells ({ frames := 0, cells := 0, slots := 0, locals := 0 } : Room).slots) := by
  refine MetFree.of_bodySF (plainFor_of_name own_pn0) hisR ?_
  intro p e s m args below meth c s₁ Bd hml0 hP hK
  obtain ⟨rfl, hZ, hh⟩ := hP
  have hx := Bd.exec
  have hby := Bd.bytes
  have hml : c.maxLocals = 4 := hml0
  have hown : s.vm.findClass "com/example/tourloom/tourloom/GeneticOperatorsOrderCrossoverPinLaw" = some m.cls := findClass_of_methodNamed Bd.named
  have hnm := (name_of_methodNamed Bd.named Bd.method).1
  have hlk : meth.locks = false := BodyLoose.notSynchronized Bd
  have X0 : Stand p l e ({ frames := 0, cells := 0, slots := 0, locals := 0 } : Room) s m #[.ref a1, .int (2 : Int32), .int p3] below meth c s₁ [] 0 0 := Stand.of_body Bd
  have e0 : s₁.heap = h0 := by rw [← hh, Bd.state]; rfl
  have N0 := Fr.nil n0
  have K0 := Keep.refl h0 [a1]
  show own_Go p e below (own_E s 0 0 (own_Q2_2 Z a1 p3 b0 b1 b2 b3 b4 h0 n0)) (s₁.setTop (entryFrame m #[.ref a1, .int (2 : Int32), .int p3] 4))
  rw [own_ef2_k2]
  refine own_aloadN X0 hx (hb hby own_d2_0) (q := 1) rfl rfl rfl ?_
  refine own_iloadN X0 hx (hb hby own_d2_1) (q := 2) rfl rfl ?_
  refine own_iaload X0 hx hZ (i := 2) (v := .int b2) e0 V0p (by decide) (by decide) rfl (hb hby own_d2_2) (q := 3) rfl ?_
  refine own_istoreN (L' := #[.val (.ref a1), .val (.int (2 : Int32)), .val (.int p3), .val (.int b2)]) X0 hx (hb hby own_d2_3) (q := 4) rfl rfl ?_
  refine own_aloadN X0 hx (hb hby own_d2_4) (q := 5) rfl rfl rfl ?_
  refine own_iloadN X0 hx (hb hby own_d2_5) (q := 6) rfl rfl ?_
  refine own_aloadN X0 hx (hb hby own_d2_6) (q := 7) rfl rfl rfl ?_
  refine own_iloadN X0 hx (hb hby own_d2_7) (q := 8) rfl rfl ?_
  refine own_iaload X0 hx hZ (i := (p3).toNatClampNeg) (v := .int (own_z_cat b0 b1 b2 b3 b4 p3)) e0 V0p (own_nn5 hj) rfl (own_cat5V hj) (hb hby own_d2_8) (q := 9) rfl ?_
  refine own_iastore X0 hx hZ (i := 2) e0 V0p (by decide) (by decide) (Nat.le_of_ble_eq_true rfl) (hb hby own_d2_9) (q := 10) rfl (fun T33 h36 X34 e35 W37 A38 => ?_)
  replace A38 : own_A Z h36 a1 .int [.int b0, .int b1, .int (own_z_cat b0 b1 b2 b3 b4 p3), .int b3, .int b4] := A38
  have K39 := K0.wr W37 (Or.inl (List.mem_of_getElem? (i := 0) rfl))
  have N40 := Fr.snoc X34 N0 G_a1
  refine own_aloadN X34 hx (hb hby own_d2_10) (q := 11) rfl rfl rfl ?_
  refine own_iloadN X34 hx (hb hby own_d2_11) (q := 12) rfl rfl ?_
  refine own_iloadN X34 hx (hb hby own_d2_12) (q := 13) rfl rfl ?_
  refine own_iastore X34 hx hZ (i := (p3).toNatClampNeg) e35 A38 (own_nn5 hj) rfl (own_lt5 hj) (hb hby own_d2_13) (q := 14) rfl (fun T41 h44 X42 e43 W45 A46 => ?_)
  replace A46 : own_A Z h44 a1 .int [.int (own_sw2_0 p3 b0 b1 b2 b3 b4), .int (own_sw2_1 p3 b0 b1 b2 b3 b4), .int (own_sw2_2 p3 b0 b1 b2 b3 b4), .int (own_sw2_3 p3 b0 b1 b2 b3 b4), .int (own_sw2_4 p3 b0 b1 b2 b3 b4)] := by rw [own_set5 hj] at A46; exact A46
  have K47 := K39.wr W45 (Or.inl (List.mem_of_getElem? (i := 0) rfl))
  have N48 := Fr.snoc X42 N40 G_a1
  refine own_retV X42 hx hlk (rest := []) Bd.returns (hb hby own_d2_14) ?_ (by decide) (by decide)
  show own_Q2_2 Z a1 p3 b0 b1 b2 b3 b4 h0 n0 _ T41.heap _
  rw [e43]
  exact ⟨rfl, N48, K47, A46⟩
set_option maxRecDepth 100000 in
set_option maxHeartbeats 4000000 in
theorem own_swP2 {j b0 b1 b2 b3 b4 : Int32} (hj : own_z_r5 j) (h : own_z_P b0 b1 b2 b3 b4) : own_z_P (own_sw2_0 j b0 b1 b2 b3 b4) (own_sw2_1 j b0 b1 b2 b3 b4) (own_sw2_2 j b0 b1 b2 b3 b4) (own_sw2_3 j b0 b1 b2 b3 b4) (own_sw2_4 j b0 b1 b2 b3 b4) := by
  obtain ⟨i, rfl⟩ := own_z_fin hj
  exact own_z_pind (fun b0 b1 b2 b3 b4 => ∀ i : Fin 5, own_z_P (own_sw2_0 (Int32.ofNat i.val) b0 b1 b2 b3 b4) (own_sw2_1 (Int32.ofNat i.val) b0 b1 b2 b3 b4) (own_sw2_2 (Int32.ofNat i.val) b0 b1 b2 b3 b4) (own_sw2_3 (Int32.ofNat i.val) b0 b1 b2 b3 b4) (own_sw2_4 (Int32.ofNat i.val) b0 b1 b2 b3 b4)) (by decide +kernel) h i
def own_sw1_0 (p3 b0 b1 b2 b3 b4 : Int32) : Int32 := own_z_up p3 0 b1 b0
def own_sw1_1 (p3 b0 b1 b2 b3 b4 : Int32) : Int32 := own_z_up p3 1 b1 (own_z_cat b0 b1 b2 b3 b4 p3)
def own_sw1_2 (p3 b0 b1 b2 b3 b4 : Int32) : Int32 := own_z_up p3 2 b1 b2
def own_sw1_3 (p3 b0 b1 b2 b3 b4 : Int32) : Int32 := own_z_up p3 3 b1 b3
def own_sw1_4 (p3 b0 b1 b2 b3 b4 : Int32) : Int32 := own_z_up p3 4 b1 b4
theorem own_ef2_k1 (m : MethodId) (a1 : Addr) (p3 : Int32) : entryFrame m #[.ref a1, .int (1 : Int32), .int p3] 4 = mkF m 0 #[.val (.ref a1), .val (.int (1 : Int32)), .val (.int p3), .unset] [] := by first | (simp [entryFrame, mkF, argsToLocals, Value.category]; done) | rfl

def own_Q2_1 (Z : State) (a1 : Addr) (p3 : Int32) (b0 : Int32) (b1 : Int32) (b2 : Int32) (b3 : Int32) (b4 : Int32) (h0 : Heap) (n0 : Nat) (v : Option Value) (h : Heap) (L : List Loc) : Prop := v = none ∧ Fr n0 L ∧ Keep h0 h [a1] ∧ own_A Z h a1 .int [.int (own_sw1_0 p3 b0 b1 b2 b3 b4), .int (own_sw1_1 p3 b0 b1 b2 b3 b4), .int (own_sw1_2 p3 b0 b1 b2 b3 b4), .int (own_sw1_3 p3 b0 b1 b2 b3 b4), .int (own_sw1_4 p3 b0 b1 b2 b3 b4)]
set_option maxRecDepth 65536 in
set_option maxHeartbeats 40000000 in
theorem rm2_1 (l : Launch) (Z : State) (a0 : Array Value) (hw : ∀ d ∈ tables_1, d.before a0 Z = true) (ws : List Jvm.Cond) (a1 : Addr) (p3 : Int32) (b0 : Int32) (b1 : Int32) (b2 : Int32) (b3 : Int32) (b4 : Int32) (h0 : Heap) (n0 : Nat) (V0p : own_A Z h0 a1 .int [.int b0, .int b1, .int b2, .int b3, .int b4]) (G_a1 : n0 ≤ a1) (hj : own_z_r5 p3) :
    MetFree l (⟨"com/example/tourloom/tourloom/GeneticOperatorsOrderCrossoverPinLaw", "swap", "([III)V"⟩ : MethodName) (head1 (Jvm.Cond.code (⟨"com/example/tourloom/tourloom/GeneticOperatorsOrderCrossoverPinLaw", "swap", "([III)V"⟩ : MethodName) method_4_code 4 none :: ws) ({ frames := 0, cells := 0, slots := 0, locals := 0 } : Room)) (fun a U => a = #[.ref a1, .int (1 : Int32), .int p3] ∧ Z.Warmed39 U.vm ∧ U.heap = h0) (fun _ _ _ _ _ => True) (fun _ U o U' => ∃ v L, o = .returned v ∧ own_Q2_1 Z a1 p3 b0 b1 b2 b3 b4 h0 n0 v U'.heap L ∧ FrameEnd U o U' L ({ frames := 0, cells := 0, slots := 0, locals := 0 } : Room).cells ({ frames := 0, cells := 0, slots := 0, locals := 0 } : Room).slots) := by
  refine MetFree.of_bodySF (plainFor_of_name own_pn0) hisR ?_
  intro p e s m args below meth c s₁ Bd hml0 hP hK
  obtain ⟨rfl, hZ, hh⟩ := hP
  have hx := Bd.exec
  have hby := Bd.bytes
  have hml : c.maxLocals = 4 := hml0
  have hown : s.vm.findClass "com/example/tourloom/tourloom/GeneticOperatorsOrderCrossoverPinLaw" = some m.cls := findClass_of_methodNamed Bd.named
  have hnm := (name_of_methodNamed Bd.named Bd.method).1
  have hlk : meth.locks = false := BodyLoose.notSynchronized Bd
  have X0 : Stand p l e ({ frames := 0, cells := 0, slots := 0, locals := 0 } : Room) s m #[.ref a1, .int (1 : Int32), .int p3] below meth c s₁ [] 0 0 := Stand.of_body Bd
  have e0 : s₁.heap = h0 := by rw [← hh, Bd.state]; rfl
  have N0 := Fr.nil n0
  have K0 := Keep.refl h0 [a1]
  show own_Go p e below (own_E s 0 0 (own_Q2_1 Z a1 p3 b0 b1 b2 b3 b4 h0 n0)) (s₁.setTop (entryFrame m #[.ref a1, .int (1 : Int32), .int p3] 4))
  rw [own_ef2_k1]
  refine own_aloadN X0 hx (hb hby own_d2_0) (q := 1) rfl rfl rfl ?_
  refine own_iloadN X0 hx (hb hby own_d2_1) (q := 2) rfl rfl ?_
  refine own_iaload X0 hx hZ (i := 1) (v := .int b1) e0 V0p (by decide) (by decide) rfl (hb hby own_d2_2) (q := 3) rfl ?_
  refine own_istoreN (L' := #[.val (.ref a1), .val (.int (1 : Int32)), .val (.int p3), .val (.int b1)]) X0 hx (hb hby own_d2_3) (q := 4) rfl rfl ?_
  refine own_aloadN X0 hx (hb hby own_d2_4) (q := 5) rfl rfl rfl ?_
  refine own_iloadN X0 hx (hb hby own_d2_5) (q := 6) rfl rfl ?_
  refine own_aloadN X0 hx (hb hby own_d2_6) (q := 7) rfl rfl rfl ?_
  refine own_iloadN X0 hx (hb hby own_d2_7) (q := 8) rfl rfl ?_
  refine own_iaload X0 hx hZ (i := (p3).toNatClampNeg) (v := .int (own_z_cat b0 b1 b2 b3 b4 p3)) e0 V0p (own_nn5 hj) rfl (own_cat5V hj) (hb hby own_d2_8) (q := 9) rfl ?_
  refine own_iastore X0 hx hZ (i := 1) e0 V0p (by decide) (by decide) (Nat.le_of_ble_eq_true rfl) (hb hby own_d2_9) (q := 10) rfl (fun T49 h52 X50 e51 W53 A54 => ?_)
  replace A54 : own_A Z h52 a1 .int [.int b0, .int (own_z_cat b0 b1 b2 b3 b4 p3), .int b2, .int b3, .int b4] := A54
  have K55 := K0.wr W53 (Or.inl (List.mem_of_getElem? (i := 0) rfl))
  have N56 := Fr.snoc X50 N0 G_a1
  refine own_aloadN X50 hx (hb hby own_d2_10) (q := 11) rfl rfl rfl ?_
  refine own_iloadN X50 hx (hb hby own_d2_11) (q := 12) rfl rfl ?_
  refine own_iloadN X50 hx (hb hby own_d2_12) (q := 13) rfl rfl ?_
  refine own_iastore X50 hx hZ (i := (p3).toNatClampNeg) e51 A54 (own_nn5 hj) rfl (own_lt5 hj) (hb hby own_d2_13) (q := 14) rfl (fun T57 h60 X58 e59 W61 A62 => ?_)
  replace A62 : own_A Z h60 a1 .int [.int (own_sw1_0 p3 b0 b1 b2 b3 b4), .int (own_sw1_1 p3 b0 b1 b2 b3 b4), .int (own_sw1_2 p3 b0 b1 b2 b3 b4), .int (own_sw1_3 p3 b0 b1 b2 b3 b4), .int (own_sw1_4 p3 b0 b1 b2 b3 b4)] := by rw [own_set5 hj] at A62; exact A62
  have K63 := K55.wr W61 (Or.inl (List.mem_of_getElem? (i := 0) rfl))
  have N64 := Fr.snoc X58 N56 G_a1
  refine own_retV X58 hx hlk (rest := []) Bd.returns (hb hby own_d2_14) ?_ (by decide) (by decide)
  show own_Q2_1 Z a1 p3 b0 b1 b2 b3 b4 h0 n0 _ T57.heap _
  rw [e59]
  exact ⟨rfl, N64, K63, A62⟩
set_option maxRecDepth 100000 in
set_option maxHeartbeats 4000000 in
theorem own_swP1 {j b0 b1 b2 b3 b4 : Int32} (hj : own_z_r5 j) (h : own_z_P b0 b1 b2 b3 b4) : own_z_P (own_sw1_0 j b0 b1 b2 b3 b4) (own_sw1_1 j b0 b1 b2 b3 b4) (own_sw1_2 j b0 b1 b2 b3 b4) (own_sw1_3 j b0 b1 b2 b3 b4) (own_sw1_4 j b0 b1 b2 b3 b4) := by
  obtain ⟨i, rfl⟩ := own_z_fin hj
  exact own_z_pind (fun b0 b1 b2 b3 b4 => ∀ i : Fin 5, own_z_P (own_sw1_0 (Int32.ofNat i.val) b0 b1 b2 b3 b4) (own_sw1_1 (Int32.ofNat i.val) b0 b1 b2 b3 b4) (own_sw1_2 (Int32.ofNat i.val) b0 b1 b2 b3 b4) (own_sw1_3 (Int32.ofNat i.val) b0 b1 b2 b3 b4) (own_sw1_4 (Int32.ofNat i.val) b0 b1 b2 b3 b4)) (by decide +kernel) h i
theorem own_pd0 : parseMethodDescriptor "([III)V" = some ⟨[(.array .int), .int, .int], none⟩ := by decide +kernel
def own_pm1_0 (p1 : Int32) : Int32 := own_sw4_0 ((p1 &&& (2147483647 : Int32)) % (5 : Int32)) (0 : Int32) (1 : Int32) (2 : Int32) (3 : Int32) (4 : Int32)
def own_pm1_1 (p1 : Int32) : Int32 := own_sw4_1 ((p1 &&& (2147483647 : Int32)) % (5 : Int32)) (0 : Int32) (1 : Int32) (2 : Int32) (3 : Int32) (4 : Int32)
def own_pm1_2 (p1 : Int32) : Int32 := own_sw4_2 ((p1 &&& (2147483647 : Int32)) % (5 : Int32)) (0 : Int32) (1 : Int32) (2 : Int32) (3 : Int32) (4 : Int32)
def own_pm1_3 (p1 : Int32) : Int32 := own_sw4_3 ((p1 &&& (2147483647 : Int32)) % (5 : Int32)) (0 : Int32) (1 : Int32) (2 : Int32) (3 : Int32) (4 : Int32)
def own_pm1_4 (p1 : Int32) : Int32 := own_sw4_4 ((p1 &&& (2147483647 : Int32)) % (5 : Int32)) (0 : Int32) (1 : Int32) (2 : Int32) (3 : Int32) (4 : Int32)
def own_pm2_0 (p1 : Int32) : Int32 := own_sw3_0 (((p1 &&& (2147483647 : Int32)) / (5 : Int32)) % (4 : Int32)) (own_pm1_0 p1) (own_pm1_1 p1) (own_pm1_2 p1) (own_pm1_3 p1) (own_pm1_4 p1)
def own_pm2_1 (p1 : Int32) : Int32 := own_sw3_1 (((p1 &&& (2147483647 : Int32)) / (5 : Int32)) % (4 : Int32)) (own_pm1_0 p1) (own_pm1_1 p1) (own_pm1_2 p1) (own_pm1_3 p1) (own_pm1_4 p1)
def own_pm2_2 (p1 : Int32) : Int32 := own_sw3_2 (((p1 &&& (2147483647 : Int32)) / (5 : Int32)) % (4 : Int32)) (own_pm1_0 p1) (own_pm1_1 p1) (own_pm1_2 p1) (own_pm1_3 p1) (own_pm1_4 p1)
def own_pm2_3 (p1 : Int32) : Int32 := own_sw3_3 (((p1 &&& (2147483647 : Int32)) / (5 : Int32)) % (4 : Int32)) (own_pm1_0 p1) (own_pm1_1 p1) (own_pm1_2 p1) (own_pm1_3 p1) (own_pm1_4 p1)
def own_pm2_4 (p1 : Int32) : Int32 := own_sw3_4 (((p1 &&& (2147483647 : Int32)) / (5 : Int32)) % (4 : Int32)) (own_pm1_0 p1) (own_pm1_1 p1) (own_pm1_2 p1) (own_pm1_3 p1) (own_pm1_4 p1)
def own_pm3_0 (p1 : Int32) : Int32 := own_sw2_0 ((((p1 &&& (2147483647 : Int32)) / (5 : Int32)) / (4 : Int32)) % (3 : Int32)) (own_pm2_0 p1) (own_pm2_1 p1) (own_pm2_2 p1) (own_pm2_3 p1) (own_pm2_4 p1)
def own_pm3_1 (p1 : Int32) : Int32 := own_sw2_1 ((((p1 &&& (2147483647 : Int32)) / (5 : Int32)) / (4 : Int32)) % (3 : Int32)) (own_pm2_0 p1) (own_pm2_1 p1) (own_pm2_2 p1) (own_pm2_3 p1) (own_pm2_4 p1)
def own_pm3_2 (p1 : Int32) : Int32 := own_sw2_2 ((((p1 &&& (2147483647 : Int32)) / (5 : Int32)) / (4 : Int32)) % (3 : Int32)) (own_pm2_0 p1) (own_pm2_1 p1) (own_pm2_2 p1) (own_pm2_3 p1) (own_pm2_4 p1)
def own_pm3_3 (p1 : Int32) : Int32 := own_sw2_3 ((((p1 &&& (2147483647 : Int32)) / (5 : Int32)) / (4 : Int32)) % (3 : Int32)) (own_pm2_0 p1) (own_pm2_1 p1) (own_pm2_2 p1) (own_pm2_3 p1) (own_pm2_4 p1)
def own_pm3_4 (p1 : Int32) : Int32 := own_sw2_4 ((((p1 &&& (2147483647 : Int32)) / (5 : Int32)) / (4 : Int32)) % (3 : Int32)) (own_pm2_0 p1) (own_pm2_1 p1) (own_pm2_2 p1) (own_pm2_3 p1) (own_pm2_4 p1)
def own_pm4_0 (p1 : Int32) : Int32 := own_sw1_0 (((((p1 &&& (2147483647 : Int32)) / (5 : Int32)) / (4 : Int32)) / (3 : Int32)) % (2 : Int32)) (own_pm3_0 p1) (own_pm3_1 p1) (own_pm3_2 p1) (own_pm3_3 p1) (own_pm3_4 p1)
def own_pm4_1 (p1 : Int32) : Int32 := own_sw1_1 (((((p1 &&& (2147483647 : Int32)) / (5 : Int32)) / (4 : Int32)) / (3 : Int32)) % (2 : Int32)) (own_pm3_0 p1) (own_pm3_1 p1) (own_pm3_2 p1) (own_pm3_3 p1) (own_pm3_4 p1)
def own_pm4_2 (p1 : Int32) : Int32 := own_sw1_2 (((((p1 &&& (2147483647 : Int32)) / (5 : Int32)) / (4 : Int32)) / (3 : Int32)) % (2 : Int32)) (own_pm3_0 p1) (own_pm3_1 p1) (own_pm3_2 p1) (own_pm3_3 p1) (own_pm3_4 p1)
def own_pm4_3 (p1 : Int32) : Int32 := own_sw1_3 (((((p1 &&& (2147483647 : Int32)) / (5 : Int32)) / (4 : Int32)) / (3 : Int32)) % (2 : Int32)) (own_pm3_0 p1) (own_pm3_1 p1) (own_pm3_2 p1) (own_pm3_3 p1) (own_pm3_4 p1)
def own_pm4_4 (p1 : Int32) : Int32 := own_sw1_4 (((((p1 &&& (2147483647 : Int32)) / (5 : Int32)) / (4 : Int32)) / (3 : Int32)) % (2 : Int32)) (own_pm3_0 p1) (own_pm3_1 p1) (own_pm3_2 p1) (own_pm3_3 p1) (own_pm3_4 p1)
theorem own_ef1 (m : MethodId) (p1 : Int32) : entryFrame m #[.int p1] 3 = mkF m 0 #[.val (.int p1), .unset, .unset] [] := by first | (simp [entryFrame, mkF, argsToLocals, Value.category]; done) | rfl
theorem own_d1_0 : decode method_3_code 0 = .ok (.iload_n 0, 1) := by decide +kernel
theorem own_d1_1 : decode method_3_code 1 = .ok (.ldc 13, 2) := by decide +kernel
theorem own_d1_3 : decode method_3_code 3 = .ok (.iand, 1) := by decide +kernel
theorem own_d1_4 : decode method_3_code 4 = .ok (.istore_n 1, 1) := by decide +kernel
theorem own_d1_5 : decode method_3_code 5 = .ok (.iconst 5, 1) := by decide +kernel
theorem own_d1_6 : decode method_3_code 6 = .ok (.newarray .int, 2) := by decide +kernel
theorem own_d1_8 : decode method_3_code 8 = .ok (.dup, 1) := by decide +kernel
theorem own_d1_9 : decode method_3_code 9 = .ok (.iconst 0, 1) := by decide +kernel
theorem own_d1_10 : decode method_3_code 10 = .ok (.iconst 0, 1) := by decide +kernel
theorem own_d1_11 : decode method_3_code 11 = .ok (.iastore, 1) := by decide +kernel
theorem own_d1_12 : decode method_3_code 12 = .ok (.dup, 1) := by decide +kernel
theorem own_d1_13 : decode method_3_code 13 = .ok (.iconst 1, 1) := by decide +kernel
theorem own_d1_14 : decode method_3_code 14 = .ok (.iconst 1, 1) := by decide +kernel
theorem own_d1_15 : decode method_3_code 15 = .ok (.iastore, 1) := by decide +kernel
theorem own_d1_16 : decode method_3_code 16 = .ok (.dup, 1) := by decide +kernel
theorem own_d1_17 : decode method_3_code 17 = .ok (.iconst 2, 1) := by decide +kernel
theorem own_d1_18 : decode method_3_code 18 = .ok (.iconst 2, 1) := by decide +kernel
theorem own_d1_19 : decode method_3_code 19 = .ok (.iastore, 1) := by decide +kernel
theorem own_d1_20 : decode method_3_code 20 = .ok (.dup, 1) := by decide +kernel
theorem own_d1_21 : decode method_3_code 21 = .ok (.iconst 3, 1) := by decide +kernel
theorem own_d1_22 : decode method_3_code 22 = .ok (.iconst 3, 1) := by decide +kernel
theorem own_d1_23 : decode method_3_code 23 = .ok (.iastore, 1) := by decide +kernel
theorem own_d1_24 : decode method_3_code 24 = .ok (.dup, 1) := by decide +kernel
theorem own_d1_25 : decode method_3_code 25 = .ok (.iconst 4, 1) := by decide +kernel
theorem own_d1_26 : decode method_3_code 26 = .ok (.iconst 4, 1) := by decide +kernel
theorem own_d1_27 : decode method_3_code 27 = .ok (.iastore, 1) := by decide +kernel
theorem own_d1_28 : decode method_3_code 28 = .ok (.astore_n 2, 1) := by decide +kernel
theorem own_d1_29 : decode method_3_code 29 = .ok (.aload_n 2, 1) := by decide +kernel
theorem own_d1_30 : decode method_3_code 30 = .ok (.iconst 4, 1) := by decide +kernel
theorem own_d1_31 : decode method_3_code 31 = .ok (.iload_n 1, 1) := by decide +kernel
theorem own_d1_32 : decode method_3_code 32 = .ok (.iconst 5, 1) := by decide +kernel
theorem own_d1_33 : decode method_3_code 33 = .ok (.irem, 1) := by decide +kernel
theorem own_d1_34 : decode method_3_code 34 = .ok (.invokestatic 31, 3) := by decide +kernel
theorem own_d1_37 : decode method_3_code 37 = .ok (.iload_n 1, 1) := by decide +kernel
theorem own_d1_38 : decode method_3_code 38 = .ok (.iconst 5, 1) := by decide +kernel
theorem own_d1_39 : decode method_3_code 39 = .ok (.idiv, 1) := by decide +kernel
theorem own_d1_40 : decode method_3_code 40 = .ok (.istore_n 1, 1) := by decide +kernel
theorem own_d1_41 : decode method_3_code 41 = .ok (.aload_n 2, 1) := by decide +kernel
theorem own_d1_42 : decode method_3_code 42 = .ok (.iconst 3, 1) := by decide +kernel
theorem own_d1_43 : decode method_3_code 43 = .ok (.iload_n 1, 1) := by decide +kernel
theorem own_d1_44 : decode method_3_code 44 = .ok (.iconst 4, 1) := by decide +kernel
theorem own_d1_45 : decode method_3_code 45 = .ok (.irem, 1) := by decide +kernel
theorem own_d1_46 : decode method_3_code 46 = .ok (.invokestatic 31, 3) := by decide +kernel
theorem own_d1_49 : decode method_3_code 49 = .ok (.iload_n 1, 1) := by decide +kernel
theorem own_d1_50 : decode method_3_code 50 = .ok (.iconst 4, 1) := by decide +kernel
theorem own_d1_51 : decode method_3_code 51 = .ok (.idiv, 1) := by decide +kernel
theorem own_d1_52 : decode method_3_code 52 = .ok (.istore_n 1, 1) := by decide +kernel
theorem own_d1_53 : decode method_3_code 53 = .ok (.aload_n 2, 1) := by decide +kernel
theorem own_d1_54 : decode method_3_code 54 = .ok (.iconst 2, 1) := by decide +kernel
theorem own_d1_55 : decode method_3_code 55 = .ok (.iload_n 1, 1) := by decide +kernel
theorem own_d1_56 : decode method_3_code 56 = .ok (.iconst 3, 1) := by decide +kernel
theorem own_d1_57 : decode method_3_code 57 = .ok (.irem, 1) := by decide +kernel
theorem own_d1_58 : decode method_3_code 58 = .ok (.invokestatic 31, 3) := by decide +kernel
theorem own_d1_61 : decode method_3_code 61 = .ok (.iload_n 1, 1) := by decide +kernel
theorem own_d1_62 : decode method_3_code 62 = .ok (.iconst 3, 1) := by decide +kernel
theorem own_d1_63 : decode method_3_code 63 = .ok (.idiv, 1) := by decide +kernel
theorem own_d1_64 : decode method_3_code 64 = .ok (.istore_n 1, 1) := by decide +kernel
theorem own_d1_65 : decode method_3_code 65 = .ok (.aload_n 2, 1) := by decide +kernel
theorem own_d1_66 : decode method_3_code 66 = .ok (.iconst 1, 1) := by decide +kernel
theorem own_d1_67 : decode method_3_code 67 = .ok (.iload_n 1, 1) := by decide +kernel
theorem own_d1_68 : decode method_3_code 68 = .ok (.iconst 2, 1) := by decide +kernel
theorem own_d1_69 : decode method_3_code 69 = .ok (.irem, 1) := by decide +kernel
theorem own_d1_70 : decode method_3_code 70 = .ok (.invokestatic 31, 3) := by decide +kernel
theorem own_d1_73 : decode method_3_code 73 = .ok (.aload_n 2, 1) := by decide +kernel
theorem own_d1_74 : decode method_3_code 74 = .ok (.areturn, 1) := by decide +kernel
def own_Q1 (Z : State) (p1 : Int32) (h0 : Heap) (n0 : Nat) (v : Option Value) (h : Heap) (L : List Loc) : Prop := ∃ ra0 : Addr, v = some (.ref ra0) ∧ Fr n0 L ∧ Keep h0 h [] ∧ h0.size ≤ ra0 ∧ own_A Z h ra0 .int [.int (own_pm4_0 p1), .int (own_pm4_1 p1), .int (own_pm4_2 p1), .int (own_pm4_3 p1), .int (own_pm4_4 p1)]
set_option maxRecDepth 65536 in
set_option maxHeartbeats 40000000 in
theorem rm1 (l : Launch) (Z : State) (a0 : Array Value) (hw : ∀ d ∈ tables_1, d.before a0 Z = true) (ws : List Jvm.Cond) (p1 : Int32) (h0 : Heap) (n0 : Nat) (Z0 : n0 ≤ h0.size)  :
    MetFree l (⟨"com/example/tourloom/tourloom/GeneticOperatorsOrderCrossoverPinLaw", "perm", "(I)[I"⟩ : MethodName) (head1 (Jvm.Cond.code (⟨"com/example/tourloom/tourloom/GeneticOperatorsOrderCrossoverPinLaw", "perm", "(I)[I"⟩ : MethodName) method_3_code 3 (some (.array .int)) :: ws) ({ frames := 1, cells := 1, slots := 5, locals := 15 } : Room)) (fun a U => a = #[.int p1] ∧ Z.Warmed39 U.vm ∧ U.heap = h0) (fun _ _ _ _ _ => True) (fun _ U o U' => ∃ v L, o = .returned v ∧ own_Q1 Z p1 h0 n0 v U'.heap L ∧ FrameEnd U o U' L ({ frames := 1, cells := 1, slots := 5, locals := 15 } : Room).cells ({ frames := 1, cells := 1, slots := 5, locals := 15 } : Room).slots) := by
  refine MetFree.of_bodySF (plainFor_of_name own_pn0) hisR ?_
  intro p e s m args below meth c s₁ Bd hml0 hP hK
  obtain ⟨rfl, hZ, hh⟩ := hP
  have hx := Bd.exec
  have hby := Bd.bytes
  have hml : c.maxLocals = 3 := hml0
  have hown : s.vm.findClass "com/example/tourloom/tourloom/GeneticOperatorsOrderCrossoverPinLaw" = some m.cls := findClass_of_methodNamed Bd.named
  have hnm := (name_of_methodNamed Bd.named Bd.method).1
  have hlk : meth.locks = false := BodyLoose.notSynchronized Bd
  have X0 : Stand p l e ({ frames := 1, cells := 1, slots := 5, locals := 15 } : Room) s m #[.int p1] below meth c s₁ [] 0 0 := Stand.of_body Bd
  have e0 : s₁.heap = h0 := by rw [← hh, Bd.state]; rfl
  have N0 := Fr.nil n0
  have K0 := Keep.refl h0 []
  show own_Go p e below (own_E s 1 5 (own_Q1 Z p1 h0 n0)) (s₁.setTop (entryFrame m #[.int p1] 3))
  rw [own_ef1]
  refine own_iloadN X0 hx (hb hby own_d1_0) (q := 1) rfl rfl ?_
  refine own_ldc X0 hx hZ hown (hw _ (List.mem_of_getElem? (i := 4) rfl)) (hb hby own_d1_1) (q := 3) rfl ?_
  refine own_iand X0 hx (hb hby own_d1_3) (q := 4) rfl ?_
  refine own_istoreN (L' := #[.val (.int p1), .val (.int (p1 &&& (2147483647 : Int32))), .unset]) X0 hx (hb hby own_d1_4) (q := 5) rfl rfl ?_
  refine own_iconst X0 hx (v := (5 : Int32)) (hb hby own_d1_5) (q := 6) rfl rfl ?_
  refine own_newA X0 hx hZ (aty := .int) (ty := .int) (k := 5) (cap := 5) rfl (hw _ (List.mem_of_getElem? (i := 5) rfl)) e0 (by decide) (by decide) (by decide) (by decide) (by decide) (by decide) (hb hby own_d1_6) (q := 8) rfl (fun T65 h68 a69 X66 e67 g70 E71 A72 => ?_)
  have O73 : h0.size ≤ a69 := by rw [g70]; exact K0.1
  have K74 := K0.ext E71
  have Z75 : n0 ≤ a69 := by rw [g70]; exact Z0
  have Z76 : n0 ≤ h68.size := Nat.le_trans Z0 E71.1
  replace A72 : own_A Z h68 a69 .int [.int (0 : Int32), .int (0 : Int32), .int (0 : Int32), .int (0 : Int32), .int (0 : Int32)] := A72
  refine own_dup X66 hx (hb hby own_d1_8) (q := 9) rfl rfl ?_
  refine own_iconst X66 hx (v := (0 : Int32)) (hb hby own_d1_9) (q := 10) rfl rfl ?_
  refine own_iconst X66 hx (v := (0 : Int32)) (hb hby own_d1_10) (q := 11) rfl rfl ?_
  refine own_iastore X66 hx hZ (i := 0) e67 A72 (by decide) (by decide) (Nat.le_of_ble_eq_true rfl) (hb hby own_d1_11) (q := 12) rfl (fun T77 h80 X78 e79 W81 A82 => ?_)
  replace A82 : own_A Z h80 a69 .int [.int (0 : Int32), .int (0 : Int32), .int (0 : Int32), .int (0 : Int32), .int (0 : Int32)] := A82
  have K83 := K74.wr W81 (Or.inr O73)
  have Z84 : n0 ≤ h80.size := W81.size ▸ Z76
  have N85 := Fr.snoc X78 N0 Z75
  refine own_dup X78 hx (hb hby own_d1_12) (q := 13) rfl rfl ?_
  refine own_iconst X78 hx (v := (1 : Int32)) (hb hby own_d1_13) (q := 14) rfl rfl ?_
  refine own_iconst X78 hx (v := (1 : Int32)) (hb hby own_d1_14) (q := 15) rfl rfl ?_
  refine own_iastore X78 hx hZ (i := 1) e79 A82 (by decide) (by decide) (Nat.le_of_ble_eq_true rfl) (hb hby own_d1_15) (q := 16) rfl (fun T86 h89 X87 e88 W90 A91 => ?_)
  replace A91 : own_A Z h89 a69 .int [.int (0 : Int32), .int (1 : Int32), .int (0 : Int32), .int (0 : Int32), .int (0 : Int32)] := A91
  have K92 := K83.wr W90 (Or.inr O73)
  have Z93 : n0 ≤ h89.size := W90.size ▸ Z84
  have N94 := Fr.snoc X87 N85 Z75
  refine own_dup X87 hx (hb hby own_d1_16) (q := 17) rfl rfl ?_
  refine own_iconst X87 hx (v := (2 : Int32)) (hb hby own_d1_17) (q := 18) rfl rfl ?_
  refine own_iconst X87 hx (v := (2 : Int32)) (hb hby own_d1_18) (q := 19) rfl rfl ?_
  refine own_iastore X87 hx hZ (i := 2) e88 A91 (by decide) (by decide) (Nat.le_of_ble_eq_true rfl) (hb hby own_d1_19) (q := 20) rfl (fun T95 h98 X96 e97 W99 A100 => ?_)
  replace A100 : own_A Z h98 a69 .int [.int (0 : Int32), .int (1 : Int32), .int (2 : Int32), .int (0 : Int32), .int (0 : Int32)] := A100
  have K101 := K92.wr W99 (Or.inr O73)
  have Z102 : n0 ≤ h98.size := W99.size ▸ Z93
  have N103 := Fr.snoc X96 N94 Z75
  refine own_dup X96 hx (hb hby own_d1_20) (q := 21) rfl rfl ?_
  refine own_iconst X96 hx (v := (3 : Int32)) (hb hby own_d1_21) (q := 22) rfl rfl ?_
  refine own_iconst X96 hx (v := (3 : Int32)) (hb hby own_d1_22) (q := 23) rfl rfl ?_
  refine own_iastore X96 hx hZ (i := 3) e97 A100 (by decide) (by decide) (Nat.le_of_ble_eq_true rfl) (hb hby own_d1_23) (q := 24) rfl (fun T104 h107 X105 e106 W108 A109 => ?_)
  replace A109 : own_A Z h107 a69 .int [.int (0 : Int32), .int (1 : Int32), .int (2 : Int32), .int (3 : Int32), .int (0 : Int32)] := A109
  have K110 := K101.wr W108 (Or.inr O73)
  have Z111 : n0 ≤ h107.size := W108.size ▸ Z102
  have N112 := Fr.snoc X105 N103 Z75
  refine own_dup X105 hx (hb hby own_d1_24) (q := 25) rfl rfl ?_
  refine own_iconst X105 hx (v := (4 : Int32)) (hb hby own_d1_25) (q := 26) rfl rfl ?_
  refine own_iconst X105 hx (v := (4 : Int32)) (hb hby own_d1_26) (q := 27) rfl rfl ?_
  refine own_iastore X105 hx hZ (i := 4) e106 A109 (by decide) (by decide) (Nat.le_of_ble_eq_true rfl) (hb hby own_d1_27) (q := 28) rfl (fun T113 h116 X114 e115 W117 A118 => ?_)
  replace A118 : own_A Z h116 a69 .int [.int (0 : Int32), .int (1 : Int32), .int (2 : Int32), .int (3 : Int32), .int (4 : Int32)] := A118
  have K119 := K110.wr W117 (Or.inr O73)
  have Z120 : n0 ≤ h116.size := W117.size ▸ Z111
  have N121 := Fr.snoc X114 N112 Z75
  refine own_astoreN (L' := #[.val (.int p1), .val (.int (p1 &&& (2147483647 : Int32))), .val (.ref a69)]) X114 hx (hb hby own_d1_28) (q := 29) rfl rfl rfl ?_
  refine own_aloadN X114 hx (hb hby own_d1_29) (q := 30) rfl rfl rfl ?_
  refine own_iconst X114 hx (v := (4 : Int32)) (hb hby own_d1_30) (q := 31) rfl rfl ?_
  refine own_iloadN X114 hx (hb hby own_d1_31) (q := 32) rfl rfl ?_
  refine own_iconst X114 hx (v := (5 : Int32)) (hb hby own_d1_32) (q := 33) rfl rfl ?_
  refine own_irem X114 hx (hb hby own_d1_33) (q := 34) rfl (by decide) ?_
  refine own_callS X114 hx hZ hown (hw _ (List.mem_of_getElem? (i := 6) rfl)) (hw _ (List.mem_of_getElem? (i := 7) rfl)) (hw _ (List.mem_of_getElem? (i := 2) rfl)) (hw _ (List.mem_of_getElem? (i := 8) rfl)) (by decide) (rm2_4 l Z a0 hw [] a69 ((p1 &&& (2147483647 : Int32)) % (5 : Int32)) (0 : Int32) (1 : Int32) (2 : Int32) (3 : Int32) (4 : Int32) h116 n0 A118 Z75 (own_j4 p1)) own_pd0 rfl e115 (by rw [hml]; rfl) (argsL := [.ref a69, .int (4 : Int32), .int ((p1 &&& (2147483647 : Int32)) % (5 : Int32))]) (st := []) rfl (W := 0) (Nat.le_of_eq rfl) (by decide) (by decide) (by decide) (by decide) (hb hby own_d1_34) (q := 37) rfl (fun v128 T129 L130 X131 hQ132 => ?_)
  obtain ⟨rfl, N133, K134, A136⟩ := hQ132
  have Z137 : n0 ≤ T129.heap.size := Nat.le_trans Z120 K134.1
  have K138 := K119.trans K134 (allS (Or.inr O73) all0)
  have N135 := Fr.app N121 N133
  show own_Go p e below (own_E s 1 5 (own_Q1 Z p1 h0 n0)) (T129.setTop (mkF m 37 #[.val (.int p1), .val (.int (p1 &&& (2147483647 : Int32))), .val (.ref a69)] []))
  replace A136 : own_A Z T129.heap a69 .int [.int (own_pm1_0 p1), .int (own_pm1_1 p1), .int (own_pm1_2 p1), .int (own_pm1_3 p1), .int (own_pm1_4 p1)] := A136
  refine own_iloadN X131 hx (hb hby own_d1_37) (q := 38) rfl rfl ?_
  refine own_iconst X131 hx (v := (5 : Int32)) (hb hby own_d1_38) (q := 39) rfl rfl ?_
  refine own_idiv X131 hx (hb hby own_d1_39) (q := 40) rfl (by decide) ?_
  refine own_istoreN (L' := #[.val (.int p1), .val (.int ((p1 &&& (2147483647 : Int32)) / (5 : Int32))), .val (.ref a69)]) X131 hx (hb hby own_d1_40) (q := 41) rfl rfl ?_
  refine own_aloadN X131 hx (hb hby own_d1_41) (q := 42) rfl rfl rfl ?_
  refine own_iconst X131 hx (v := (3 : Int32)) (hb hby own_d1_42) (q := 43) rfl rfl ?_
  refine own_iloadN X131 hx (hb hby own_d1_43) (q := 44) rfl rfl ?_
  refine own_iconst X131 hx (v := (4 : Int32)) (hb hby own_d1_44) (q := 45) rfl rfl ?_
  refine own_irem X131 hx (hb hby own_d1_45) (q := 46) rfl (by decide) ?_
  refine own_callS X131 hx hZ hown (hw _ (List.mem_of_getElem? (i := 6) rfl)) (hw _ (List.mem_of_getElem? (i := 7) rfl)) (hw _ (List.mem_of_getElem? (i := 2) rfl)) (hw _ (List.mem_of_getElem? (i := 8) rfl)) (by decide) (rm2_3 l Z a0 hw [] a69 (((p1 &&& (2147483647 : Int32)) / (5 : Int32)) % (4 : Int32)) (own_pm1_0 p1) (own_pm1_1 p1) (own_pm1_2 p1) (own_pm1_3 p1) (own_pm1_4 p1) T129.heap n0 A136 Z75 (own_j3 p1)) own_pd0 rfl rfl (by rw [hml]; rfl) (argsL := [.ref a69, .int (3 : Int32), .int (((p1 &&& (2147483647 : Int32)) / (5 : Int32)) % (4 : Int32))]) (st := []) rfl (W := 0) (Nat.le_of_eq rfl) (by decide) (by decide) (by decide) (by decide) (hb hby own_d1_46) (q := 49) rfl (fun v145 T146 L147 X148 hQ149 => ?_)
  obtain ⟨rfl, N150, K151, A153⟩ := hQ149
  have Z154 : n0 ≤ T146.heap.size := Nat.le_trans Z137 K151.1
  have K155 := K138.trans K151 (allS (Or.inr O73) all0)
  have N152 := Fr.app N135 N150
  show own_Go p e below (own_E s 1 5 (own_Q1 Z p1 h0 n0)) (T146.setTop (mkF m 49 #[.val (.int p1), .val (.int ((p1 &&& (2147483647 : Int32)) / (5 : Int32))), .val (.ref a69)] []))
  replace A153 : own_A Z T146.heap a69 .int [.int (own_pm2_0 p1), .int (own_pm2_1 p1), .int (own_pm2_2 p1), .int (own_pm2_3 p1), .int (own_pm2_4 p1)] := A153
  refine own_iloadN X148 hx (hb hby own_d1_49) (q := 50) rfl rfl ?_
  refine own_iconst X148 hx (v := (4 : Int32)) (hb hby own_d1_50) (q := 51) rfl rfl ?_
  refine own_idiv X148 hx (hb hby own_d1_51) (q := 52) rfl (by decide) ?_
  refine own_istoreN (L' := #[.val (.int p1), .val (.int (((p1 &&& (2147483647 : Int32)) / (5 : Int32)) / (4 : Int32))), .val (.ref a69)]) X148 hx (hb hby own_d1_52) (q := 53) rfl rfl ?_
  refine own_aloadN X148 hx (hb hby own_d1_53) (q := 54) rfl rfl rfl ?_
  refine own_iconst X148 hx (v := (2 : Int32)) (hb hby own_d1_54) (q := 55) rfl rfl ?_
  refine own_iloadN X148 hx (hb hby own_d1_55) (q := 56) rfl rfl ?_
  refine own_iconst X148 hx (v := (3 : Int32)) (hb hby own_d1_56) (q := 57) rfl rfl ?_
  refine own_irem X148 hx (hb hby own_d1_57) (q := 58) rfl (by decide) ?_
  refine own_callS X148 hx hZ hown (hw _ (List.mem_of_getElem? (i := 6) rfl)) (hw _ (List.mem_of_getElem? (i := 7) rfl)) (hw _ (List.mem_of_getElem? (i := 2) rfl)) (hw _ (List.mem_of_getElem? (i := 8) rfl)) (by decide) (rm2_2 l Z a0 hw [] a69 ((((p1 &&& (2147483647 : Int32)) / (5 : Int32)) / (4 : Int32)) % (3 : Int32)) (own_pm2_0 p1) (own_pm2_1 p1) (own_pm2_2 p1) (own_pm2_3 p1) (own_pm2_4 p1) T146.heap n0 A153 Z75 (own_j2 p1)) own_pd0 rfl rfl (by rw [hml]; rfl) (argsL := [.ref a69, .int (2 : Int32), .int ((((p1 &&& (2147483647 : Int32)) / (5 : Int32)) / (4 : Int32)) % (3 : Int32))]) (st := []) rfl (W := 0) (Nat.le_of_eq rfl) (by decide) (by decide) (by decide) (by decide) (hb hby own_d1_58) (q := 61) rfl (fun v162 T163 L164 X165 hQ166 => ?_)
  obtain ⟨rfl, N167, K168, A170⟩ := hQ166
  have Z171 : n0 ≤ T163.heap.size := Nat.le_trans Z154 K168.1
  have K172 := K155.trans K168 (allS (Or.inr O73) all0)
  have N169 := Fr.app N152 N167
  show own_Go p e below (own_E s 1 5 (own_Q1 Z p1 h0 n0)) (T163.setTop (mkF m 61 #[.val (.int p1), .val (.int (((p1 &&& (2147483647 : Int32)) / (5 : Int32)) / (4 : Int32))), .val (.ref a69)] []))
  replace A170 : own_A Z T163.heap a69 .int [.int (own_pm3_0 p1), .int (own_pm3_1 p1), .int (own_pm3_2 p1), .int (own_pm3_3 p1), .int (own_pm3_4 p1)] := A170
  refine own_iloadN X165 hx (hb hby own_d1_61) (q := 62) rfl rfl ?_
  refine own_iconst X165 hx (v := (3 : Int32)) (hb hby own_d1_62) (q := 63) rfl rfl ?_
  refine own_idiv X165 hx (hb hby own_d1_63) (q := 64) rfl (by decide) ?_
  refine own_istoreN (L' := #[.val (.int p1), .val (.int ((((p1 &&& (2147483647 : Int32)) / (5 : Int32)) / (4 : Int32)) / (3 : Int32))), .val (.ref a69)]) X165 hx (hb hby own_d1_64) (q := 65) rfl rfl ?_
  refine own_aloadN X165 hx (hb hby own_d1_65) (q := 66) rfl rfl rfl ?_
  refine own_iconst X165 hx (v := (1 : Int32)) (hb hby own_d1_66) (q := 67) rfl rfl ?_
  refine own_iloadN X165 hx (hb hby own_d1_67) (q := 68) rfl rfl ?_
  refine own_iconst X165 hx (v := (2 : Int32)) (hb hby own_d1_68) (q := 69) rfl rfl ?_
  refine own_irem X165 hx (hb hby own_d1_69) (q := 70) rfl (by decide) ?_
  refine own_callS X165 hx hZ hown (hw _ (List.mem_of_getElem? (i := 6) rfl)) (hw _ (List.mem_of_getElem? (i := 7) rfl)) (hw _ (List.mem_of_getElem? (i := 2) rfl)) (hw _ (List.mem_of_getElem? (i := 8) rfl)) (by decide) (rm2_1 l Z a0 hw [] a69 (((((p1 &&& (2147483647 : Int32)) / (5 : Int32)) / (4 : Int32)) / (3 : Int32)) % (2 : Int32)) (own_pm3_0 p1) (own_pm3_1 p1) (own_pm3_2 p1) (own_pm3_3 p1) (own_pm3_4 p1) T163.heap n0 A170 Z75 (own_j1 p1)) own_pd0 rfl rfl (by rw [hml]; rfl) (argsL := [.ref a69, .int (1 : Int32), .int (((((p1 &&& (2147483647 : Int32)) / (5 : Int32)) / (4 : Int32)) / (3 : Int32)) % (2 : Int32))]) (st := []) rfl (W := 0) (Nat.le_of_eq rfl) (by decide) (by decide) (by decide) (by decide) (hb hby own_d1_70) (q := 73) rfl (fun v179 T180 L181 X182 hQ183 => ?_)
  obtain ⟨rfl, N184, K185, A187⟩ := hQ183
  have Z188 : n0 ≤ T180.heap.size := Nat.le_trans Z171 K185.1
  have K189 := K172.trans K185 (allS (Or.inr O73) all0)
  have N186 := Fr.app N169 N184
  show own_Go p e below (own_E s 1 5 (own_Q1 Z p1 h0 n0)) (T180.setTop (mkF m 73 #[.val (.int p1), .val (.int ((((p1 &&& (2147483647 : Int32)) / (5 : Int32)) / (4 : Int32)) / (3 : Int32))), .val (.ref a69)] []))
  replace A187 : own_A Z T180.heap a69 .int [.int (own_pm4_0 p1), .int (own_pm4_1 p1), .int (own_pm4_2 p1), .int (own_pm4_3 p1), .int (own_pm4_4 p1)] := A187
  refine own_aloadN X182 hx (hb hby own_d1_73) (q := 74) rfl rfl rfl ?_
  refine own_retA X182 hx hlk rfl rfl rfl Bd.returns (hb hby own_d1_74) ?_ (by decide) (by decide)
  show own_Q1 Z p1 h0 n0 _ T180.heap _
  exact ⟨a69, rfl, N186, K189, O73, A187⟩
theorem own_pmP (x : Int32) : own_z_P (own_pm4_0 x) (own_pm4_1 x) (own_pm4_2 x) (own_pm4_3 x) (own_pm4_4 x) :=
  own_swP1 (own_j1 x) (own_swP2 (own_j2 x) (own_swP3 (own_j3 x) (own_swP4 (own_j4 x) (by decide : own_z_P 0 1 2 3 4))))
theorem own_l0 {lo hi : Int32} (h : own_z_LH lo hi) : ¬ hi < lo := by rcases h with ⟨rfl, rfl⟩ | ⟨rfl, rfl⟩ | ⟨rfl, rfl⟩ | ⟨rfl, rfl⟩ | ⟨rfl, rfl⟩ | ⟨rfl, rfl⟩ | ⟨rfl, rfl⟩ | ⟨rfl, rfl⟩ | ⟨rfl, rfl⟩ | ⟨rfl, rfl⟩ | ⟨rfl, rfl⟩ | ⟨rfl, rfl⟩ | ⟨rfl, rfl⟩ | ⟨rfl, rfl⟩ | ⟨rfl, rfl⟩ <;> decide
theorem own_l5 {lo hi : Int32} (h : own_z_LH lo hi) : hi < lo + (1 : Int32) + (1 : Int32) + (1 : Int32) + (1 : Int32) + (1 : Int32) := by rcases h with ⟨rfl, rfl⟩ | ⟨rfl, rfl⟩ | ⟨rfl, rfl⟩ | ⟨rfl, rfl⟩ | ⟨rfl, rfl⟩ | ⟨rfl, rfl⟩ | ⟨rfl, rfl⟩ | ⟨rfl, rfl⟩ | ⟨rfl, rfl⟩ | ⟨rfl, rfl⟩ | ⟨rfl, rfl⟩ | ⟨rfl, rfl⟩ | ⟨rfl, rfl⟩ | ⟨rfl, rfl⟩ | ⟨rfl, rfl⟩ <;> decide
theorem own_pos0 {lo hi : Int32} (h : own_z_LH lo hi) (d : ¬ hi < lo) : own_z_r5 (lo) := by rcases h with ⟨rfl, rfl⟩ | ⟨rfl, rfl⟩ | ⟨rfl, rfl⟩ | ⟨rfl, rfl⟩ | ⟨rfl, rfl⟩ | ⟨rfl, rfl⟩ | ⟨rfl, rfl⟩ | ⟨rfl, rfl⟩ | ⟨rfl, rfl⟩ | ⟨rfl, rfl⟩ | ⟨rfl, rfl⟩ | ⟨rfl, rfl⟩ | ⟨rfl, rfl⟩ | ⟨rfl, rfl⟩ | ⟨rfl, rfl⟩ <;> first | decide | exact absurd (by decide) d
theorem own_pos1 {lo hi : Int32} (h : own_z_LH lo hi) (d : ¬ hi < lo + (1 : Int32)) : own_z_r5 (lo + (1 : Int32)) := by rcases h with ⟨rfl, rfl⟩ | ⟨rfl, rfl⟩ | ⟨rfl, rfl⟩ | ⟨rfl, rfl⟩ | ⟨rfl, rfl⟩ | ⟨rfl, rfl⟩ | ⟨rfl, rfl⟩ | ⟨rfl, rfl⟩ | ⟨rfl, rfl⟩ | ⟨rfl, rfl⟩ | ⟨rfl, rfl⟩ | ⟨rfl, rfl⟩ | ⟨rfl, rfl⟩ | ⟨rfl, rfl⟩ | ⟨rfl, rfl⟩ <;> first | decide | exact absurd (by decide) d
theorem own_pos2 {lo hi : Int32} (h : own_z_LH lo hi) (d : ¬ hi < lo + (1 : Int32) + (1 : Int32)) : own_z_r5 (lo + (1 : Int32) + (1 : Int32)) := by rcases h with ⟨rfl, rfl⟩ | ⟨rfl, rfl⟩ | ⟨rfl, rfl⟩ | ⟨rfl, rfl⟩ | ⟨rfl, rfl⟩ | ⟨rfl, rfl⟩ | ⟨rfl, rfl⟩ | ⟨rfl, rfl⟩ | ⟨rfl, rfl⟩ | ⟨rfl, rfl⟩ | ⟨rfl, rfl⟩ | ⟨rfl, rfl⟩ | ⟨rfl, rfl⟩ | ⟨rfl, rfl⟩ | ⟨rfl, rfl⟩ <;> first | decide | exact absurd (by decide) d
theorem own_pos3 {lo hi : Int32} (h : own_z_LH lo hi) (d : ¬ hi < lo + (1 : Int32) + (1 : Int32) + (1 : Int32)) : own_z_r5 (lo + (1 : Int32) + (1 : Int32) + (1 : Int32)) := by rcases h with ⟨rfl, rfl⟩ | ⟨rfl, rfl⟩ | ⟨rfl, rfl⟩ | ⟨rfl, rfl⟩ | ⟨rfl, rfl⟩ | ⟨rfl, rfl⟩ | ⟨rfl, rfl⟩ | ⟨rfl, rfl⟩ | ⟨rfl, rfl⟩ | ⟨rfl, rfl⟩ | ⟨rfl, rfl⟩ | ⟨rfl, rfl⟩ | ⟨rfl, rfl⟩ | ⟨rfl, rfl⟩ | ⟨rfl, rfl⟩ <;> first | decide | exact absurd (by decide) d
theorem own_pos4 {lo hi : Int32} (h : own_z_LH lo hi) (d : ¬ hi < lo + (1 : Int32) + (1 : Int32) + (1 : Int32) + (1 : Int32)) : own_z_r5 (lo + (1 : Int32) + (1 : Int32) + (1 : Int32) + (1 : Int32)) := by rcases h with ⟨rfl, rfl⟩ | ⟨rfl, rfl⟩ | ⟨rfl, rfl⟩ | ⟨rfl, rfl⟩ | ⟨rfl, rfl⟩ | ⟨rfl, rfl⟩ | ⟨rfl, rfl⟩ | ⟨rfl, rfl⟩ | ⟨rfl, rfl⟩ | ⟨rfl, rfl⟩ | ⟨rfl, rfl⟩ | ⟨rfl, rfl⟩ | ⟨rfl, rfl⟩ | ⟨rfl, rfl⟩ | ⟨rfl, rfl⟩ <;> first | decide | exact absurd (by decide) d
def own_kp0 (p3 k0 k1 k2 k3 k4 : Int32) : Int32 := own_z_cat k0 k1 k2 k3 k4 (p3)
def own_w1_0 (p3 k0 k1 k2 k3 k4 : Int32) : Int32 := own_z_up (p3) 0 (own_kp0 p3 k0 k1 k2 k3 k4) 0
def own_w1_1 (p3 k0 k1 k2 k3 k4 : Int32) : Int32 := own_z_up (p3) 1 (own_kp0 p3 k0 k1 k2 k3 k4) 0
def own_w1_2 (p3 k0 k1 k2 k3 k4 : Int32) : Int32 := own_z_up (p3) 2 (own_kp0 p3 k0 k1 k2 k3 k4) 0
def own_w1_3 (p3 k0 k1 k2 k3 k4 : Int32) : Int32 := own_z_up (p3) 3 (own_kp0 p3 k0 k1 k2 k3 k4) 0
def own_w1_4 (p3 k0 k1 k2 k3 k4 : Int32) : Int32 := own_z_up (p3) 4 (own_kp0 p3 k0 k1 k2 k3 k4) 0
def own_v1_0 (p3 k0 k1 k2 k3 k4 : Int32) : Int32 := own_z_up (own_kp0 p3 k0 k1 k2 k3 k4) 0 1 0
def own_v1_1 (p3 k0 k1 k2 k3 k4 : Int32) : Int32 := own_z_up (own_kp0 p3 k0 k1 k2 k3 k4) 1 1 0
def own_v1_2 (p3 k0 k1 k2 k3 k4 : Int32) : Int32 := own_z_up (own_kp0 p3 k0 k1 k2 k3 k4) 2 1 0
def own_v1_3 (p3 k0 k1 k2 k3 k4 : Int32) : Int32 := own_z_up (own_kp0 p3 k0 k1 k2 k3 k4) 3 1 0
def own_v1_4 (p3 k0 k1 k2 k3 k4 : Int32) : Int32 := own_z_up (own_kp0 p3 k0 k1 k2 k3 k4) 4 1 0
theorem own_ex1 {lo hi k0 k1 k2 k3 k4 : Int32} (h : own_z_LH lo hi) (u : hi < lo + (1 : Int32)) (d : ¬ hi < lo) : own_w1_0 lo k0 k1 k2 k3 k4 = own_z_y 0 lo hi 0 k0 ∧ own_w1_1 lo k0 k1 k2 k3 k4 = own_z_y 0 lo hi 1 k1 ∧ own_w1_2 lo k0 k1 k2 k3 k4 = own_z_y 0 lo hi 2 k2 ∧ own_w1_3 lo k0 k1 k2 k3 k4 = own_z_y 0 lo hi 3 k3 ∧ own_w1_4 lo k0 k1 k2 k3 k4 = own_z_y 0 lo hi 4 k4 ∧ own_v1_0 lo k0 k1 k2 k3 k4 = own_z_b lo hi k0 k1 k2 k3 k4 0 ∧ own_v1_1 lo k0 k1 k2 k3 k4 = own_z_b lo hi k0 k1 k2 k3 k4 1 ∧ own_v1_2 lo k0 k1 k2 k3 k4 = own_z_b lo hi k0 k1 k2 k3 k4 2 ∧ own_v1_3 lo k0 k1 k2 k3 k4 = own_z_b lo hi k0 k1 k2 k3 k4 3 ∧ own_v1_4 lo k0 k1 k2 k3 k4 = own_z_b lo hi k0 k1 k2 k3 k4 4 := by
  rcases h with ⟨rfl, rfl⟩ | ⟨rfl, rfl⟩ | ⟨rfl, rfl⟩ | ⟨rfl, rfl⟩ | ⟨rfl, rfl⟩ | ⟨rfl, rfl⟩ | ⟨rfl, rfl⟩ | ⟨rfl, rfl⟩ | ⟨rfl, rfl⟩ | ⟨rfl, rfl⟩ | ⟨rfl, rfl⟩ | ⟨rfl, rfl⟩ | ⟨rfl, rfl⟩ | ⟨rfl, rfl⟩ | ⟨rfl, rfl⟩ <;> first | exact absurd u (by decide) | exact absurd (by decide) d | exact ⟨rfl, rfl, rfl, rfl, rfl, rfl, rfl, rfl, rfl, rfl⟩
def own_kp1 (p3 k0 k1 k2 k3 k4 : Int32) : Int32 := own_z_cat k0 k1 k2 k3 k4 (p3 + (1 : Int32))
def own_w2_0 (p3 k0 k1 k2 k3 k4 : Int32) : Int32 := own_z_up (p3 + (1 : Int32)) 0 (own_kp1 p3 k0 k1 k2 k3 k4) (own_w1_0 p3 k0 k1 k2 k3 k4)
def own_w2_1 (p3 k0 k1 k2 k3 k4 : Int32) : Int32 := own_z_up (p3 + (1 : Int32)) 1 (own_kp1 p3 k0 k1 k2 k3 k4) (own_w1_1 p3 k0 k1 k2 k3 k4)
def own_w2_2 (p3 k0 k1 k2 k3 k4 : Int32) : Int32 := own_z_up (p3 + (1 : Int32)) 2 (own_kp1 p3 k0 k1 k2 k3 k4) (own_w1_2 p3 k0 k1 k2 k3 k4)
def own_w2_3 (p3 k0 k1 k2 k3 k4 : Int32) : Int32 := own_z_up (p3 + (1 : Int32)) 3 (own_kp1 p3 k0 k1 k2 k3 k4) (own_w1_3 p3 k0 k1 k2 k3 k4)
def own_w2_4 (p3 k0 k1 k2 k3 k4 : Int32) : Int32 := own_z_up (p3 + (1 : Int32)) 4 (own_kp1 p3 k0 k1 k2 k3 k4) (own_w1_4 p3 k0 k1 k2 k3 k4)
def own_v2_0 (p3 k0 k1 k2 k3 k4 : Int32) : Int32 := own_z_up (own_kp1 p3 k0 k1 k2 k3 k4) 0 1 (own_v1_0 p3 k0 k1 k2 k3 k4)
def own_v2_1 (p3 k0 k1 k2 k3 k4 : Int32) : Int32 := own_z_up (own_kp1 p3 k0 k1 k2 k3 k4) 1 1 (own_v1_1 p3 k0 k1 k2 k3 k4)
def own_v2_2 (p3 k0 k1 k2 k3 k4 : Int32) : Int32 := own_z_up (own_kp1 p3 k0 k1 k2 k3 k4) 2 1 (own_v1_2 p3 k0 k1 k2 k3 k4)
def own_v2_3 (p3 k0 k1 k2 k3 k4 : Int32) : Int32 := own_z_up (own_kp1 p3 k0 k1 k2 k3 k4) 3 1 (own_v1_3 p3 k0 k1 k2 k3 k4)
def own_v2_4 (p3 k0 k1 k2 k3 k4 : Int32) : Int32 := own_z_up (own_kp1 p3 k0 k1 k2 k3 k4) 4 1 (own_v1_4 p3 k0 k1 k2 k3 k4)
theorem own_ex2 {lo hi k0 k1 k2 k3 k4 : Int32} (h : own_z_LH lo hi) (u : hi < lo + (1 : Int32) + (1 : Int32)) (d : ¬ hi < lo + (1 : Int32)) : own_w2_0 lo k0 k1 k2 k3 k4 = own_z_y 0 lo hi 0 k0 ∧ own_w2_1 lo k0 k1 k2 k3 k4 = own_z_y 0 lo hi 1 k1 ∧ own_w2_2 lo k0 k1 k2 k3 k4 = own_z_y 0 lo hi 2 k2 ∧ own_w2_3 lo k0 k1 k2 k3 k4 = own_z_y 0 lo hi 3 k3 ∧ own_w2_4 lo k0 k1 k2 k3 k4 = own_z_y 0 lo hi 4 k4 ∧ own_v2_0 lo k0 k1 k2 k3 k4 = own_z_b lo hi k0 k1 k2 k3 k4 0 ∧ own_v2_1 lo k0 k1 k2 k3 k4 = own_z_b lo hi k0 k1 k2 k3 k4 1 ∧ own_v2_2 lo k0 k1 k2 k3 k4 = own_z_b lo hi k0 k1 k2 k3 k4 2 ∧ own_v2_3 lo k0 k1 k2 k3 k4 = own_z_b lo hi k0 k1 k2 k3 k4 3 ∧ own_v2_4 lo k0 k1 k2 k3 k4 = own_z_b lo hi k0 k1 k2 k3 k4 4 := by
  rcases h with ⟨rfl, rfl⟩ | ⟨rfl, rfl⟩ | ⟨rfl, rfl⟩ | ⟨rfl, rfl⟩ | ⟨rfl, rfl⟩ | ⟨rfl, rfl⟩ | ⟨rfl, rfl⟩ | ⟨rfl, rfl⟩ | ⟨rfl, rfl⟩ | ⟨rfl, rfl⟩ | ⟨rfl, rfl⟩ | ⟨rfl, rfl⟩ | ⟨rfl, rfl⟩ | ⟨rfl, rfl⟩ | ⟨rfl, rfl⟩ <;> first | exact absurd u (by decide) | exact absurd (by decide) d | exact ⟨rfl, rfl, rfl, rfl, rfl, rfl, rfl, rfl, rfl, rfl⟩
def own_kp2 (p3 k0 k1 k2 k3 k4 : Int32) : Int32 := own_z_cat k0 k1 k2 k3 k4 (p3 + (1 : Int32) + (1 : Int32))
def own_w3_0 (p3 k0 k1 k2 k3 k4 : Int32) : Int32 := own_z_up (p3 + (1 : Int32) + (1 : Int32)) 0 (own_kp2 p3 k0 k1 k2 k3 k4) (own_w2_0 p3 k0 k1 k2 k3 k4)
def own_w3_1 (p3 k0 k1 k2 k3 k4 : Int32) : Int32 := own_z_up (p3 + (1 : Int32) + (1 : Int32)) 1 (own_kp2 p3 k0 k1 k2 k3 k4) (own_w2_1 p3 k0 k1 k2 k3 k4)
def own_w3_2 (p3 k0 k1 k2 k3 k4 : Int32) : Int32 := own_z_up (p3 + (1 : Int32) + (1 : Int32)) 2 (own_kp2 p3 k0 k1 k2 k3 k4) (own_w2_2 p3 k0 k1 k2 k3 k4)
def own_w3_3 (p3 k0 k1 k2 k3 k4 : Int32) : Int32 := own_z_up (p3 + (1 : Int32) + (1 : Int32)) 3 (own_kp2 p3 k0 k1 k2 k3 k4) (own_w2_3 p3 k0 k1 k2 k3 k4)
def own_w3_4 (p3 k0 k1 k2 k3 k4 : Int32) : Int32 := own_z_up (p3 + (1 : Int32) + (1 : Int32)) 4 (own_kp2 p3 k0 k1 k2 k3 k4) (own_w2_4 p3 k0 k1 k2 k3 k4)
def own_v3_0 (p3 k0 k1 k2 k3 k4 : Int32) : Int32 := own_z_up (own_kp2 p3 k0 k1 k2 k3 k4) 0 1 (own_v2_0 p3 k0 k1 k2 k3 k4)
def own_v3_1 (p3 k0 k1 k2 k3 k4 : Int32) : Int32 := own_z_up (own_kp2 p3 k0 k1 k2 k3 k4) 1 1 (own_v2_1 p3 k0 k1 k2 k3 k4)
def own_v3_2 (p3 k0 k1 k2 k3 k4 : Int32) : Int32 := own_z_up (own_kp2 p3 k0 k1 k2 k3 k4) 2 1 (own_v2_2 p3 k0 k1 k2 k3 k4)
def own_v3_3 (p3 k0 k1 k2 k3 k4 : Int32) : Int32 := own_z_up (own_kp2 p3 k0 k1 k2 k3 k4) 3 1 (own_v2_3 p3 k0 k1 k2 k3 k4)
def own_v3_4 (p3 k0 k1 k2 k3 k4 : Int32) : Int32 := own_z_up (own_kp2 p3 k0 k1 k2 k3 k4) 4 1 (own_v2_4 p3 k0 k1 k2 k3 k4)
theorem own_ex3 {lo hi k0 k1 k2 k3 k4 : Int32} (h : own_z_LH lo hi) (u : hi < lo + (1 : Int32) + (1 : Int32) + (1 : Int32)) (d : ¬ hi < lo + (1 : Int32) + (1 : Int32)) : own_w3_0 lo k0 k1 k2 k3 k4 = own_z_y 0 lo hi 0 k0 ∧ own_w3_1 lo k0 k1 k2 k3 k4 = own_z_y 0 lo hi 1 k1 ∧ own_w3_2 lo k0 k1 k2 k3 k4 = own_z_y 0 lo hi 2 k2 ∧ own_w3_3 lo k0 k1 k2 k3 k4 = own_z_y 0 lo hi 3 k3 ∧ own_w3_4 lo k0 k1 k2 k3 k4 = own_z_y 0 lo hi 4 k4 ∧ own_v3_0 lo k0 k1 k2 k3 k4 = own_z_b lo hi k0 k1 k2 k3 k4 0 ∧ own_v3_1 lo k0 k1 k2 k3 k4 = own_z_b lo hi k0 k1 k2 k3 k4 1 ∧ own_v3_2 lo k0 k1 k2 k3 k4 = own_z_b lo hi k0 k1 k2 k3 k4 2 ∧ own_v3_3 lo k0 k1 k2 k3 k4 = own_z_b lo hi k0 k1 k2 k3 k4 3 ∧ own_v3_4 lo k0 k1 k2 k3 k4 = own_z_b lo hi k0 k1 k2 k3 k4 4 := by
  rcases h with ⟨rfl, rfl⟩ | ⟨rfl, rfl⟩ | ⟨rfl, rfl⟩ | ⟨rfl, rfl⟩ | ⟨rfl, rfl⟩ | ⟨rfl, rfl⟩ | ⟨rfl, rfl⟩ | ⟨rfl, rfl⟩ | ⟨rfl, rfl⟩ | ⟨rfl, rfl⟩ | ⟨rfl, rfl⟩ | ⟨rfl, rfl⟩ | ⟨rfl, rfl⟩ | ⟨rfl, rfl⟩ | ⟨rfl, rfl⟩ <;> first | exact absurd u (by decide) | exact absurd (by decide) d | exact ⟨rfl, rfl, rfl, rfl, rfl, rfl, rfl, rfl, rfl, rfl⟩
def own_kp3 (p3 k0 k1 k2 k3 k4 : Int32) : Int32 := own_z_cat k0 k1 k2 k3 k4 (p3 + (1 : Int32) + (1 : Int32) + (1 : Int32))
def own_w4_0 (p3 k0 k1 k2 k3 k4 : Int32) : Int32 := own_z_up (p3 + (1 : Int32) + (1 : Int32) + (1 : Int32)) 0 (own_kp3 p3 k0 k1 k2 k3 k4) (own_w3_0 p3 k0 k1 k2 k3 k4)
def own_w4_1 (p3 k0 k1 k2 k3 k4 : Int32) : Int32 := own_z_up (p3 + (1 : Int32) + (1 : Int32) + (1 : Int32)) 1 (own_kp3 p3 k0 k1 k2 k3 k4) (own_w3_1 p3 k0 k1 k2 k3 k4)
def own_w4_2 (p3 k0 k1 k2 k3 k4 : Int32) : Int32 := own_z_up (p3 + (1 : Int32) + (1 : Int32) + (1 : Int32)) 2 (own_kp3 p3 k0 k1 k2 k3 k4) (own_w3_2 p3 k0 k1 k2 k3 k4)
def own_w4_3 (p3 k0 k1 k2 k3 k4 : Int32) : Int32 := own_z_up (p3 + (1 : Int32) + (1 : Int32) + (1 : Int32)) 3 (own_kp3 p3 k0 k1 k2 k3 k4) (own_w3_3 p3 k0 k1 k2 k3 k4)
def own_w4_4 (p3 k0 k1 k2 k3 k4 : Int32) : Int32 := own_z_up (p3 + (1 : Int32) + (1 : Int32) + (1 : Int32)) 4 (own_kp3 p3 k0 k1 k2 k3 k4) (own_w3_4 p3 k0 k1 k2 k3 k4)
def own_v4_0 (p3 k0 k1 k2 k3 k4 : Int32) : Int32 := own_z_up (own_kp3 p3 k0 k1 k2 k3 k4) 0 1 (own_v3_0 p3 k0 k1 k2 k3 k4)
def own_v4_1 (p3 k0 k1 k2 k3 k4 : Int32) : Int32 := own_z_up (own_kp3 p3 k0 k1 k2 k3 k4) 1 1 (own_v3_1 p3 k0 k1 k2 k3 k4)
def own_v4_2 (p3 k0 k1 k2 k3 k4 : Int32) : Int32 := own_z_up (own_kp3 p3 k0 k1 k2 k3 k4) 2 1 (own_v3_2 p3 k0 k1 k2 k3 k4)
def own_v4_3 (p3 k0 k1 k2 k3 k4 : Int32) : Int32 := own_z_up (own_kp3 p3 k0 k1 k2 k3 k4) 3 1 (own_v3_3 p3 k0 k1 k2 k3 k4)
def own_v4_4 (p3 k0 k1 k2 k3 k4 : Int32) : Int32 := own_z_up (own_kp3 p3 k0 k1 k2 k3 k4) 4 1 (own_v3_4 p3 k0 k1 k2 k3 k4)
theorem own_ex4 {lo hi k0 k1 k2 k3 k4 : Int32} (h : own_z_LH lo hi) (u : hi < lo + (1 : Int32) + (1 : Int32) + (1 : Int32) + (1 : Int32)) (d : ¬ hi < lo + (1 : Int32) + (1 : Int32) + (1 : Int32)) : own_w4_0 lo k0 k1 k2 k3 k4 = own_z_y 0 lo hi 0 k0 ∧ own_w4_1 lo k0 k1 k2 k3 k4 = own_z_y 0 lo hi 1 k1 ∧ own_w4_2 lo k0 k1 k2 k3 k4 = own_z_y 0 lo hi 2 k2 ∧ own_w4_3 lo k0 k1 k2 k3 k4 = own_z_y 0 lo hi 3 k3 ∧ own_w4_4 lo k0 k1 k2 k3 k4 = own_z_y 0 lo hi 4 k4 ∧ own_v4_0 lo k0 k1 k2 k3 k4 = own_z_b lo hi k0 k1 k2 k3 k4 0 ∧ own_v4_1 lo k0 k1 k2 k3 k4 = own_z_b lo hi k0 k1 k2 k3 k4 1 ∧ own_v4_2 lo k0 k1 k2 k3 k4 = own_z_b lo hi k0 k1 k2 k3 k4 2 ∧ own_v4_3 lo k0 k1 k2 k3 k4 = own_z_b lo hi k0 k1 k2 k3 k4 3 ∧ own_v4_4 lo k0 k1 k2 k3 k4 = own_z_b lo hi k0 k1 k2 k3 k4 4 := by
  rcases h with ⟨rfl, rfl⟩ | ⟨rfl, rfl⟩ | ⟨rfl, rfl⟩ | ⟨rfl, rfl⟩ | ⟨rfl, rfl⟩ | ⟨rfl, rfl⟩ | ⟨rfl, rfl⟩ | ⟨rfl, rfl⟩ | ⟨rfl, rfl⟩ | ⟨rfl, rfl⟩ | ⟨rfl, rfl⟩ | ⟨rfl, rfl⟩ | ⟨rfl, rfl⟩ | ⟨rfl, rfl⟩ | ⟨rfl, rfl⟩ <;> first | exact absurd u (by decide) | exact absurd (by decide) d | exact ⟨rfl, rfl, rfl, rfl, rfl, rfl, rfl, rfl, rfl, rfl⟩
def own_kp4 (p3 k0 k1 k2 k3 k4 : Int32) : Int32 := own_z_cat k0 k1 k2 k3 k4 (p3 + (1 : Int32) + (1 : Int32) + (1 : Int32) + (1 : Int32))
def own_w5_0 (p3 k0 k1 k2 k3 k4 : Int32) : Int32 := own_z_up (p3 + (1 : Int32) + (1 : Int32) + (1 : Int32) + (1 : Int32)) 0 (own_kp4 p3 k0 k1 k2 k3 k4) (own_w4_0 p3 k0 k1 k2 k3 k4)
def own_w5_1 (p3 k0 k1 k2 k3 k4 : Int32) : Int32 := own_z_up (p3 + (1 : Int32) + (1 : Int32) + (1 : Int32) + (1 : Int32)) 1 (own_kp4 p3 k0 k1 k2 k3 k4) (own_w4_1 p3 k0 k1 k2 k3 k4)
def own_w5_2 (p3 k0 k1 k2 k3 k4 : Int32) : Int32 := own_z_up (p3 + (1 : Int32) + (1 : Int32) + (1 : Int32) + (1 : Int32)) 2 (own_kp4 p3 k0 k1 k2 k3 k4) (own_w4_2 p3 k0 k1 k2 k3 k4)
def own_w5_3 (p3 k0 k1 k2 k3 k4 : Int32) : Int32 := own_z_up (p3 + (1 : Int32) + (1 : Int32) + (1 : Int32) + (1 : Int32)) 3 (own_kp4 p3 k0 k1 k2 k3 k4) (own_w4_3 p3 k0 k1 k2 k3 k4)
def own_w5_4 (p3 k0 k1 k2 k3 k4 : Int32) : Int32 := own_z_up (p3 + (1 : Int32) + (1 : Int32) + (1 : Int32) + (1 : Int32)) 4 (own_kp4 p3 k0 k1 k2 k3 k4) (own_w4_4 p3 k0 k1 k2 k3 k4)
def own_v5_0 (p3 k0 k1 k2 k3 k4 : Int32) : Int32 := own_z_up (own_kp4 p3 k0 k1 k2 k3 k4) 0 1 (own_v4_0 p3 k0 k1 k2 k3 k4)
def own_v5_1 (p3 k0 k1 k2 k3 k4 : Int32) : Int32 := own_z_up (own_kp4 p3 k0 k1 k2 k3 k4) 1 1 (own_v4_1 p3 k0 k1 k2 k3 k4)
def own_v5_2 (p3 k0 k1 k2 k3 k4 : Int32) : Int32 := own_z_up (own_kp4 p3 k0 k1 k2 k3 k4) 2 1 (own_v4_2 p3 k0 k1 k2 k3 k4)
def own_v5_3 (p3 k0 k1 k2 k3 k4 : Int32) : Int32 := own_z_up (own_kp4 p3 k0 k1 k2 k3 k4) 3 1 (own_v4_3 p3 k0 k1 k2 k3 k4)
def own_v5_4 (p3 k0 k1 k2 k3 k4 : Int32) : Int32 := own_z_up (own_kp4 p3 k0 k1 k2 k3 k4) 4 1 (own_v4_4 p3 k0 k1 k2 k3 k4)
theorem own_ex5 {lo hi k0 k1 k2 k3 k4 : Int32} (h : own_z_LH lo hi) (u : hi < lo + (1 : Int32) + (1 : Int32) + (1 : Int32) + (1 : Int32) + (1 : Int32)) (d : ¬ hi < lo + (1 : Int32) + (1 : Int32) + (1 : Int32) + (1 : Int32)) : own_w5_0 lo k0 k1 k2 k3 k4 = own_z_y 0 lo hi 0 k0 ∧ own_w5_1 lo k0 k1 k2 k3 k4 = own_z_y 0 lo hi 1 k1 ∧ own_w5_2 lo k0 k1 k2 k3 k4 = own_z_y 0 lo hi 2 k2 ∧ own_w5_3 lo k0 k1 k2 k3 k4 = own_z_y 0 lo hi 3 k3 ∧ own_w5_4 lo k0 k1 k2 k3 k4 = own_z_y 0 lo hi 4 k4 ∧ own_v5_0 lo k0 k1 k2 k3 k4 = own_z_b lo hi k0 k1 k2 k3 k4 0 ∧ own_v5_1 lo k0 k1 k2 k3 k4 = own_z_b lo hi k0 k1 k2 k3 k4 1 ∧ own_v5_2 lo k0 k1 k2 k3 k4 = own_z_b lo hi k0 k1 k2 k3 k4 2 ∧ own_v5_3 lo k0 k1 k2 k3 k4 = own_z_b lo hi k0 k1 k2 k3 k4 3 ∧ own_v5_4 lo k0 k1 k2 k3 k4 = own_z_b lo hi k0 k1 k2 k3 k4 4 := by
  rcases h with ⟨rfl, rfl⟩ | ⟨rfl, rfl⟩ | ⟨rfl, rfl⟩ | ⟨rfl, rfl⟩ | ⟨rfl, rfl⟩ | ⟨rfl, rfl⟩ | ⟨rfl, rfl⟩ | ⟨rfl, rfl⟩ | ⟨rfl, rfl⟩ | ⟨rfl, rfl⟩ | ⟨rfl, rfl⟩ | ⟨rfl, rfl⟩ | ⟨rfl, rfl⟩ | ⟨rfl, rfl⟩ | ⟨rfl, rfl⟩ <;> first | exact absurd u (by decide) | exact absurd (by decide) d | exact ⟨rfl, rfl, rfl, rfl, rfl, rfl, rfl, rfl, rfl, rfl⟩
theorem own_pn6 : plainName "com/example/tourloom/tourloom/GeneticOperators" = true := by first | (simp [plainName, overriddenIn]; done) | decide +kernel
theorem own_ef3 (m : MethodId) (a1 : Addr) (a2 : Addr) (p3 : Int32) (p4 : Int32) : entryFrame m #[.ref a1, .ref a2, .int p3, .int p4] 10 = mkF m 0 #[.val (.ref a1), .val (.ref a2), .val (.int p3), .val (.int p4), .unset, .unset, .unset, .unset, .unset, .unset] [] := by first | (simp [entryFrame, mkF, argsToLocals, Value.category]; done) | rfl
theorem own_d3_0 : decode prog_15_method_3_code 0 = .ok (.aload_n 0, 1) := by decide +kernel
theorem own_d3_1 : decode prog_15_method_3_code 1 = .ok (.arraylength, 1) := by decide +kernel
theorem own_d3_2 : decode prog_15_method_3_code 2 = .ok (.istore 4, 2) := by decide +kernel
theorem own_d3_4 : decode prog_15_method_3_code 4 = .ok (.iload 4, 2) := by decide +kernel
theorem own_d3_6 : decode prog_15_method_3_code 6 = .ok (.newarray .int, 2) := by decide +kernel
theorem own_d3_8 : decode prog_15_method_3_code 8 = .ok (.astore 5, 2) := by decide +kernel
theorem own_d3_10 : decode prog_15_method_3_code 10 = .ok (.iload 4, 2) := by decide +kernel
theorem own_d3_12 : decode prog_15_method_3_code 12 = .ok (.newarray .boolean, 2) := by decide +kernel
theorem own_d3_14 : decode prog_15_method_3_code 14 = .ok (.astore 6, 2) := by decide +kernel
theorem own_d3_16 : decode prog_15_method_3_code 16 = .ok (.iload_n 2, 1) := by decide +kernel
theorem own_d3_17 : decode prog_15_method_3_code 17 = .ok (.istore 7, 2) := by decide +kernel
theorem own_d3_19 : decode prog_15_method_3_code 19 = .ok (.iload 7, 2) := by decide +kernel
theorem own_d3_21 : decode prog_15_method_3_code 21 = .ok (.iload_n 3, 1) := by decide +kernel
theorem own_d3_22 : decode prog_15_method_3_code 22 = .ok (.if_icmp .gt 26, 3) := by decide +kernel
theorem own_d3_25 : decode prog_15_method_3_code 25 = .ok (.aload 5, 2) := by decide +kernel
theorem own_d3_27 : decode prog_15_method_3_code 27 = .ok (.iload 7, 2) := by decide +kernel
theorem own_d3_29 : decode prog_15_method_3_code 29 = .ok (.aload_n 0, 1) := by decide +kernel
theorem own_d3_30 : decode prog_15_method_3_code 30 = .ok (.iload 7, 2) := by decide +kernel
theorem own_d3_32 : decode prog_15_method_3_code 32 = .ok (.iaload, 1) := by decide +kernel
theorem own_d3_33 : decode prog_15_method_3_code 33 = .ok (.iastore, 1) := by decide +kernel
theorem own_d3_34 : decode prog_15_method_3_code 34 = .ok (.aload 6, 2) := by decide +kernel
theorem own_d3_36 : decode prog_15_method_3_code 36 = .ok (.aload_n 0, 1) := by decide +kernel
theorem own_d3_37 : decode prog_15_method_3_code 37 = .ok (.iload 7, 2) := by decide +kernel
theorem own_d3_39 : decode prog_15_method_3_code 39 = .ok (.iaload, 1) := by decide +kernel
theorem own_d3_40 : decode prog_15_method_3_code 40 = .ok (.iconst 1, 1) := by decide +kernel
theorem own_d3_41 : decode prog_15_method_3_code 41 = .ok (.bastore, 1) := by decide +kernel
theorem own_d3_42 : decode prog_15_method_3_code 42 = .ok (.iinc 7 1, 3) := by decide +kernel
theorem own_d3_45 : decode prog_15_method_3_code 45 = .ok (.goto (-26), 3) := by decide +kernel
theorem own_d3_48 : decode prog_15_method_3_code 48 = .ok (.iload_n 3, 1) := by decide +kernel
theorem own_d3_49 : decode prog_15_method_3_code 49 = .ok (.iconst 1, 1) := by decide +kernel
theorem own_d3_50 : decode prog_15_method_3_code 50 = .ok (.iadd, 1) := by decide +kernel
theorem own_d3_51 : decode prog_15_method_3_code 51 = .ok (.iload 4, 2) := by decide +kernel
theorem own_d3_53 : decode prog_15_method_3_code 53 = .ok (.irem, 1) := by decide +kernel
theorem own_d3_54 : decode prog_15_method_3_code 54 = .ok (.istore 7, 2) := by decide +kernel
theorem own_d3_56 : decode prog_15_method_3_code 56 = .ok (.iconst 1, 1) := by decide +kernel
theorem own_d3_57 : decode prog_15_method_3_code 57 = .ok (.istore 8, 2) := by decide +kernel
theorem own_d3_59 : decode prog_15_method_3_code 59 = .ok (.iload 8, 2) := by decide +kernel
theorem own_d3_61 : decode prog_15_method_3_code 61 = .ok (.iload 4, 2) := by decide +kernel
theorem own_d3_63 : decode prog_15_method_3_code 63 = .ok (.if_icmp .gt 44, 3) := by decide +kernel
theorem own_d3_66 : decode prog_15_method_3_code 66 = .ok (.aload_n 1, 1) := by decide +kernel
theorem own_d3_67 : decode prog_15_method_3_code 67 = .ok (.iload_n 3, 1) := by decide +kernel
theorem own_d3_68 : decode prog_15_method_3_code 68 = .ok (.iload 8, 2) := by decide +kernel
theorem own_d3_70 : decode prog_15_method_3_code 70 = .ok (.iadd, 1) := by decide +kernel
theorem own_d3_71 : decode prog_15_method_3_code 71 = .ok (.iload 4, 2) := by decide +kernel
theorem own_d3_73 : decode prog_15_method_3_code 73 = .ok (.irem, 1) := by decide +kernel
theorem own_d3_74 : decode prog_15_method_3_code 74 = .ok (.iaload, 1) := by decide +kernel
theorem own_d3_75 : decode prog_15_method_3_code 75 = .ok (.istore 9, 2) := by decide +kernel
theorem own_d3_77 : decode prog_15_method_3_code 77 = .ok (.aload 6, 2) := by decide +kernel
theorem own_d3_79 : decode prog_15_method_3_code 79 = .ok (.iload 9, 2) := by decide +kernel
theorem own_d3_81 : decode prog_15_method_3_code 81 = .ok (.baload, 1) := by decide +kernel
theorem own_d3_82 : decode prog_15_method_3_code 82 = .ok (.ifCond .ne 19, 3) := by decide +kernel
theorem own_d3_85 : decode prog_15_method_3_code 85 = .ok (.aload 5, 2) := by decide +kernel
theorem own_d3_87 : decode prog_15_method_3_code 87 = .ok (.iload 7, 2) := by decide +kernel
theorem own_d3_89 : decode prog_15_method_3_code 89 = .ok (.iload 9, 2) := by decide +kernel
theorem own_d3_91 : decode prog_15_method_3_code 91 = .ok (.iastore, 1) := by decide +kernel
theorem own_d3_92 : decode prog_15_method_3_code 92 = .ok (.iload 7, 2) := by decide +kernel
theorem own_d3_94 : decode prog_15_method_3_code 94 = .ok (.iconst 1, 1) := by decide +kernel
theorem own_d3_95 : decode prog_15_method_3_code 95 = .ok (.iadd, 1) := by decide +kernel
theorem own_d3_96 : decode prog_15_method_3_code 96 = .ok (.iload 4, 2) := by decide +kernel
theorem own_d3_98 : decode prog_15_method_3_code 98 = .ok (.irem, 1) := by decide +kernel
theorem own_d3_99 : decode prog_15_method_3_code 99 = .ok (.istore 7, 2) := by decide +kernel
theorem own_d3_101 : decode prog_15_method_3_code 101 = .ok (.iinc 8 1, 3) := by decide +kernel
theorem own_d3_104 : decode prog_15_method_3_code 104 = .ok (.goto (-45), 3) := by decide +kernel
theorem own_d3_107 : decode prog_15_method_3_code 107 = .ok (.aload 5, 2) := by decide +kernel
theorem own_d3_109 : decode prog_15_method_3_code 109 = .ok (.areturn, 1) := by decide +kernel
def own_Q3 (Z : State) (a1 : Addr) (a2 : Addr) (p3 : Int32) (p4 : Int32) (k0 : Int32) (k1 : Int32) (k2 : Int32) (k3 : Int32) (k4 : Int32) (o0 : Int32) (o1 : Int32) (o2 : Int32) (o3 : Int32) (o4 : Int32) (h0 : Heap) (n0 : Nat) (v : Option Value) (h : Heap) (L : List Loc) : Prop := ∃ ra0 : Addr, v = some (.ref ra0) ∧ Fr n0 L ∧ Keep h0 h [] ∧ h0.size ≤ ra0 ∧ own_A Z h ra0 .int [.int (own_z_y5_0 0 p3 p4 k0 k1 k2 k3 k4 o0 o1 o2 o3 o4), .int (own_z_y5_1 0 p3 p4 k0 k1 k2 k3 k4 o0 o1 o2 o3 o4), .int (own_z_y5_2 0 p3 p4 k0 k1 k2 k3 k4 o0 o1 o2 o3 o4), .int (own_z_y5_3 0 p3 p4 k0 k1 k2 k3 k4 o0 o1 o2 o3 o4), .int (own_z_y5_4 0 p3 p4 k0 k1 k2 k3 k4 o0 o1 o2 o3 o4)]
set_option maxRecDepth 65536 in
set_option maxHeartbeats 40000000 in
theorem rm3 (l : Launch) (Z : State) (a0 : Array Value) (hw : ∀ d ∈ tables_1, d.before a0 Z = true) (ws : List Jvm.Cond) (a1 : Addr) (a2 : Addr) (p3 : Int32) (p4 : Int32) (k0 : Int32) (k1 : Int32) (k2 : Int32) (k3 : Int32) (k4 : Int32) (o0 : Int32) (o1 : Int32) (o2 : Int32) (o3 : Int32) (o4 : Int32) (h0 : Heap) (n0 : Nat) (Z0 : n0 ≤ h0.size) (V0p : own_A Z h0 a1 .int [.int k0, .int k1, .int k2, .int k3, .int k4]) (V1p : own_A Z h0 a2 .int [.int o0, .int o1, .int o2, .int o3, .int o4]) (hL : own_z_LH p3 p4) (hk : own_z_P k0 k1 k2 k3 k4) (ho : own_z_P o0 o1 o2 o3 o4) :
    MetFree l (⟨"com/example/tourloom/tourloom/GeneticOperators", "orderCrossover", "([I[III)[I"⟩ : MethodName) (head1 (Jvm.Cond.code (⟨"com/example/tourloom/tourloom/GeneticOperators", "orderCrossover", "([I[III)[I"⟩ : MethodName) prog_15_method_3_code 10 (some (.array .int)) :: ws) ({ frames := 0, cells := 2, slots := 10, locals := 0 } : Room)) (fun a U => a = #[.ref a1, .ref a2, .int p3, .int p4] ∧ Z.Warmed39 U.vm ∧ U.heap = h0) (fun _ _ _ _ _ => True) (fun _ U o U' => ∃ v L, o = .returned v ∧ own_Q3 Z a1 a2 p3 p4 k0 k1 k2 k3 k4 o0 o1 o2 o3 o4 h0 n0 v U'.heap L ∧ FrameEnd U o U' L ({ frames := 0, cells := 2, slots := 10, locals := 0 } : Room).cells ({ frames := 0, cells := 2, slots := 10, locals := 0 } : Room).slots) := by
  refine MetFree.of_bodySF (plainFor_of_name own_pn6) hisR ?_
  intro p e s m args below meth c s₁ Bd hml0 hP hK
  obtain ⟨rfl, hZ, hh⟩ := hP
  have hx := Bd.exec
  have hby := Bd.bytes
  have hml : c.maxLocals = 10 := hml0
  have hown : s.vm.findClass "com/example/tourloom/tourloom/GeneticOperators" = some m.cls := findClass_of_methodNamed Bd.named
  have hnm := (name_of_methodNamed Bd.named Bd.method).1
  have hlk : meth.locks = false := BodyLoose.notSynchronized Bd
  have X0 : Stand p l e ({ frames := 0, cells := 2, slots := 10, locals := 0 } : Room) s m #[.ref a1, .ref a2, .int p3, .int p4] below meth c s₁ [] 0 0 := Stand.of_body Bd
  have e0 : s₁.heap = h0 := by rw [← hh, Bd.state]; rfl
  have N0 := Fr.nil n0
  have K0 := Keep.refl h0 []
  show own_Go p e below (own_E s 2 10 (own_Q3 Z a1 a2 p3 p4 k0 k1 k2 k3 k4 o0 o1 o2 o3 o4 h0 n0)) (s₁.setTop (entryFrame m #[.ref a1, .ref a2, .int p3, .int p4] 10))
  rw [own_ef3]
  refine own_aloadN X0 hx (hb hby own_d3_0) (q := 1) rfl rfl rfl ?_
  refine own_alen X0 hx hZ (n := (5 : Int32)) e0 V0p rfl (hb hby own_d3_1) (q := 2) rfl ?_
  refine own_istore (L' := #[.val (.ref a1), .val (.ref a2), .val (.int p3), .val (.int p4), .val (.int (5 : Int32)), .unset, .unset, .unset, .unset, .unset]) X0 hx (hb hby own_d3_2) (q := 4) rfl rfl ?_
  refine own_iload X0 hx (hb hby own_d3_4) (q := 6) rfl rfl ?_
  refine own_newA X0 hx hZ (aty := .int) (ty := .int) (k := 5) (cap := 5) rfl (hw _ (List.mem_of_getElem? (i := 5) rfl)) e0 (by decide) (by decide) (by decide) (by decide) (by decide) (by decide) (hb hby own_d3_6) (q := 8) rfl (fun T190 h193 a194 X191 e192 g195 E196 A197 => ?_)
  have O198 : h0.size ≤ a194 := by rw [g195]; exact K0.1
  have V199 := V0p.ext E196
  have V200 := V1p.ext E196
  have K201 := K0.ext E196
  have ne202 : a1 ≠ a194 := by rw [g195]; exact Nat.ne_of_lt V0p.lt
  have ne203 : a2 ≠ a194 := by rw [g195]; exact Nat.ne_of_lt V1p.lt
  have Z204 : n0 ≤ a194 := by rw [g195]; exact Z0
  have Z205 : n0 ≤ h193.size := Nat.le_trans Z0 E196.1
  replace A197 : own_A Z h193 a194 .int [.int (0 : Int32), .int (0 : Int32), .int (0 : Int32), .int (0 : Int32), .int (0 : Int32)] := A197
  refine own_astore (L' := #[.val (.ref a1), .val (.ref a2), .val (.int p3), .val (.int p4), .val (.int (5 : Int32)), .val (.ref a194), .unset, .unset, .unset, .unset]) X191 hx (hb hby own_d3_8) (q := 10) rfl rfl rfl ?_
  refine own_iload X191 hx (hb hby own_d3_10) (q := 12) rfl rfl ?_
  refine own_newA X191 hx hZ (aty := .boolean) (ty := .boolean) (k := 5) (cap := 5) rfl (hw _ (List.mem_of_getElem? (i := 13) rfl)) e192 (by decide) (by decide) (by decide) (by decide) (by decide) (by decide) (hb hby own_d3_12) (q := 14) rfl (fun T206 h209 a210 X207 e208 g211 E212 A213 => ?_)
  have O214 : h0.size ≤ a210 := by rw [g211]; exact K201.1
  have V215 := V199.ext E212
  have V216 := V200.ext E212
  have A217 := A197.ext E212
  have K218 := K201.ext E212
  have ne219 : a1 ≠ a210 := by rw [g211]; exact Nat.ne_of_lt V199.lt
  have ne220 : a2 ≠ a210 := by rw [g211]; exact Nat.ne_of_lt V200.lt
  have ne221 : a194 ≠ a210 := by rw [g211]; exact Nat.ne_of_lt A197.lt
  have Z222 : n0 ≤ a210 := by rw [g211]; exact Z205
  have Z223 : n0 ≤ h209.size := Nat.le_trans Z205 E212.1
  replace A213 : own_A Z h209 a210 .boolean [.int (0 : Int32), .int (0 : Int32), .int (0 : Int32), .int (0 : Int32), .int (0 : Int32)] := A213
  refine own_astore (L' := #[.val (.ref a1), .val (.ref a2), .val (.int p3), .val (.int p4), .val (.int (5 : Int32)), .val (.ref a194), .val (.ref a210), .unset, .unset, .unset]) X207 hx (hb hby own_d3_14) (q := 16) rfl rfl rfl ?_
  refine own_iloadN X207 hx (hb hby own_d3_16) (q := 17) rfl rfl ?_
  refine own_istore (L' := #[.val (.ref a1), .val (.ref a2), .val (.int p3), .val (.int p4), .val (.int (5 : Int32)), .val (.ref a194), .val (.ref a210), .val (.int p3), .unset, .unset]) X207 hx (hb hby own_d3_17) (q := 19) rfl rfl ?_
  have J48 : ∀ (o224 : Int32) (T225 : State) (h228 : Heap) (L231 : List Loc), own_Lk X207 T225 L231 → T225.heap = h228 → own_A Z h228 a1 .int [.int k0, .int k1, .int k2, .int k3, .int k4] → own_A Z h228 a2 .int [.int o0, .int o1, .int o2, .int o3, .int o4] → own_A Z h228 a194 .int [.int (own_z_y 0 p3 p4 0 k0), .int (own_z_y 0 p3 p4 1 k1), .int (own_z_y 0 p3 p4 2 k2), .int (own_z_y 0 p3 p4 3 k3), .int (own_z_y 0 p3 p4 4 k4)] → own_A Z h228 a210 .boolean [.int (own_z_b p3 p4 k0 k1 k2 k3 k4 0), .int (own_z_b p3 p4 k0 k1 k2 k3 k4 1), .int (own_z_b p3 p4 k0 k1 k2 k3 k4 2), .int (own_z_b p3 p4 k0 k1 k2 k3 k4 3), .int (own_z_b p3 p4 k0 k1 k2 k3 k4 4)] → n0 ≤ h228.size → Keep h0 h228 [] → Fr n0 L231 → own_Go p e below (own_E s 2 10 (own_Q3 Z a1 a2 p3 p4 k0 k1 k2 k3 k4 o0 o1 o2 o3 o4 h0 n0)) (T225.setTop (mkF m 48 #[.val (.ref a1), .val (.ref a2), .val (.int p3), .val (.int p4), .val (.int (5 : Int32)), .val (.ref a194), .val (.ref a210), .val (.int o224), .unset, .unset] [])) := by
    intro o224 T225 h228 L231 X226 e227 A233 A234 A235 A236 Z230 K232 N229 
    replace X226 := own_Lk.get X226
    refine own_iloadN X226 hx (hb hby own_d3_48) (q := 49) rfl rfl ?_
    refine own_iconst X226 hx (v := (1 : Int32)) (hb hby own_d3_49) (q := 50) rfl rfl ?_
    refine own_iadd X226 hx (hb hby own_d3_50) (q := 51) rfl ?_
    refine own_iload X226 hx (hb hby own_d3_51) (q := 53) rfl rfl ?_
    refine own_irem X226 hx (hb hby own_d3_53) (q := 54) rfl (by decide) ?_
    refine own_istore (L' := #[.val (.ref a1), .val (.ref a2), .val (.int p3), .val (.int p4), .val (.int (5 : Int32)), .val (.ref a194), .val (.ref a210), .val (.int ((p4 + (1 : Int32)) % (5 : Int32))), .unset, .unset]) X226 hx (hb hby own_d3_54) (q := 56) rfl rfl ?_
    refine own_iconst X226 hx (v := (1 : Int32)) (hb hby own_d3_56) (q := 57) rfl rfl ?_
    refine own_istore (L' := #[.val (.ref a1), .val (.ref a2), .val (.int p3), .val (.int p4), .val (.int (5 : Int32)), .val (.ref a194), .val (.ref a210), .val (.int ((p4 + (1 : Int32)) % (5 : Int32))), .val (.int (1 : Int32)), .unset]) X226 hx (hb hby own_d3_57) (q := 59) rfl rfl ?_
    refine own_iload X226 hx (hb hby own_d3_59) (q := 61) rfl rfl ?_
    refine own_iload X226 hx (hb hby own_d3_61) (q := 63) rfl rfl ?_
    refine own_icmpP X226 hx (hb hby own_d3_63) (cd := .gt) (x := (1 : Int32)) (y := (5 : Int32)) (pt := 107) (q := 66) (by decide) (by decide) rfl rfl (fun h => False.elim (((by decide) : ¬ ((5 : Int32) < (1 : Int32))) h)) (fun _ => ?_)
    refine own_aloadN X226 hx (hb hby own_d3_66) (q := 67) rfl rfl rfl ?_
    refine own_iloadN X226 hx (hb hby own_d3_67) (q := 68) rfl rfl ?_
    refine own_iload X226 hx (hb hby own_d3_68) (q := 70) rfl rfl ?_
    refine own_iadd X226 hx (hb hby own_d3_70) (q := 71) rfl ?_
    refine own_iload X226 hx (hb hby own_d3_71) (q := 73) rfl rfl ?_
    refine own_irem X226 hx (hb hby own_d3_73) (q := 74) rfl (by decide) ?_
    refine own_iaload X226 hx hZ (i := ((p4 + (1 : Int32)) % (5 : Int32)).toNatClampNeg) (v := .int (own_z_ct1 p4 o0 o1 o2 o3 o4)) e227 A234 (own_nn5 (own_z_rt1 hL)) rfl (own_cat5V (own_z_rt1 hL)) (hb hby own_d3_74) (q := 75) rfl ?_
    refine own_istore (L' := #[.val (.ref a1), .val (.ref a2), .val (.int p3), .val (.int p4), .val (.int (5 : Int32)), .val (.ref a194), .val (.ref a210), .val (.int ((p4 + (1 : Int32)) % (5 : Int32))), .val (.int (1 : Int32)), .val (.int (own_z_ct1 p4 o0 o1 o2 o3 o4))]) X226 hx (hb hby own_d3_75) (q := 77) rfl rfl ?_
    refine own_aload X226 hx (hb hby own_d3_77) (q := 79) rfl rfl rfl ?_
    refine own_iload X226 hx (hb hby own_d3_79) (q := 81) rfl rfl ?_
    refine own_zaload X226 hx hZ (i := (own_z_ct1 p4 o0 o1 o2 o3 o4).toNatClampNeg) (v := .int (own_z_tk1 p3 p4 k0 k1 k2 k3 k4 o0 o1 o2 o3 o4)) e227 A236 (own_nn5 (own_z_cr ho (own_z_rt1 hL))) rfl (own_bV (own_z_cr ho (own_z_rt1 hL))) (hb hby own_d3_81) (q := 82) rfl ?_
    have J1 : ∀ (f237 : Int32) (y238 : Int32) (y239 : Int32) (y240 : Int32) (y241 : Int32) (y242 : Int32) (T243 : State) (h246 : Heap) (L249 : List Loc), own_Lk X226 T243 L249 → T243.heap = h246 → own_A Z h246 a1 .int [.int k0, .int k1, .int k2, .int k3, .int k4] → own_A Z h246 a2 .int [.int o0, .int o1, .int o2, .int o3, .int o4] → own_A Z h246 a194 .int [.int y238, .int y239, .int y240, .int y241, .int y242] → own_A Z h246 a210 .boolean [.int (own_z_b p3 p4 k0 k1 k2 k3 k4 0), .int (own_z_b p3 p4 k0 k1 k2 k3 k4 1), .int (own_z_b p3 p4 k0 k1 k2 k3 k4 2), .int (own_z_b p3 p4 k0 k1 k2 k3 k4 3), .int (own_z_b p3 p4 k0 k1 k2 k3 k4 4)] → n0 ≤ h246.size → Keep h0 h246 [] → Fr n0 L249 → f237 = own_z_f1 p3 p4 k0 k1 k2 k3 k4 o0 o1 o2 o3 o4 → y238 = own_z_y1_0 0 p3 p4 k0 k1 k2 k3 k4 o0 o1 o2 o3 o4 → y239 = own_z_y1_1 0 p3 p4 k0 k1 k2 k3 k4 o0 o1 o2 o3 o4 → y240 = own_z_y1_2 0 p3 p4 k0 k1 k2 k3 k4 o0 o1 o2 o3 o4 → y241 = own_z_y1_3 0 p3 p4 k0 k1 k2 k3 k4 o0 o1 o2 o3 o4 → y242 = own_z_y1_4 0 p3 p4 k0 k1 k2 k3 k4 o0 o1 o2 o3 o4 → own_Go p e below (own_E s 2 10 (own_Q3 Z a1 a2 p3 p4 k0 k1 k2 k3 k4 o0 o1 o2 o3 o4 h0 n0)) (T243.setTop (mkF m 101 #[.val (.ref a1), .val (.ref a2), .val (.int p3), .val (.int p4), .val (.int (5 : Int32)), .val (.ref a194), .val (.ref a210), .val (.int f237), .val (.int (1 : Int32)), .val (.int (own_z_ct1 p4 o0 o1 o2 o3 o4))] [])) := by
      intro f237 y238 y239 y240 y241 y242 T243 h246 L249 X244 e245 A257 A258 A259 A260 Z248 K256 N247 hy250 hy251 hy252 hy253 hy254 hy255
      replace X244 := own_Lk.get X244
      subst hy250
      subst hy251
      subst hy252
      subst hy253
      subst hy254
      subst hy255
      refine own_iinc (L' := #[.val (.ref a1), .val (.ref a2), .val (.int p3), .val (.int p4), .val (.int (5 : Int32)), .val (.ref a194), .val (.ref a210), .val (.int (own_z_f1 p3 p4 k0 k1 k2 k3 k4 o0 o1 o2 o3 o4)), .val (.int ((1 : Int32) + (1 : Int32))), .val (.int (own_z_ct1 p4 o0 o1 o2 o3 o4))]) X244 hx (v := (1 : Int32)) (hb hby own_d3_101) (q := 104) rfl rfl rfl rfl ?_
      rw [show ((1 : Int32) + (1 : Int32) : Int32) = (2 : Int32) from by decide]
      refine own_goto X244 hx (hb hby own_d3_104) (q := 59) (by decide) (by decide) ?_
      refine own_iload X244 hx (hb hby own_d3_59) (q := 61) rfl rfl ?_
      refine own_iload X244 hx (hb hby own_d3_61) (q := 63) rfl rfl ?_
      refine own_icmpP X244 hx (hb hby own_d3_63) (cd := .gt) (x := (2 : Int32)) (y := (5 : Int32)) (pt := 107) (q := 66) (by decide) (by decide) rfl rfl (fun h => False.elim (((by decide) : ¬ ((5 : Int32) < (2 : Int32))) h)) (fun _ => ?_)
      refine own_aloadN X244 hx (hb hby own_d3_66) (q := 67) rfl rfl rfl ?_
      refine own_iloadN X244 hx (hb hby own_d3_67) (q := 68) rfl rfl ?_
      refine own_iload X244 hx (hb hby own_d3_68) (q := 70) rfl rfl ?_
      refine own_iadd X244 hx (hb hby own_d3_70) (q := 71) rfl ?_
      refine own_iload X244 hx (hb hby own_d3_71) (q := 73) rfl rfl ?_
      refine own_irem X244 hx (hb hby own_d3_73) (q := 74) rfl (by decide) ?_
      refine own_iaload X244 hx hZ (i := ((p4 + (2 : Int32)) % (5 : Int32)).toNatClampNeg) (v := .int (own_z_ct2 p4 o0 o1 o2 o3 o4)) e245 A258 (own_nn5 (own_z_rt2 hL)) rfl (own_cat5V (own_z_rt2 hL)) (hb hby own_d3_74) (q := 75) rfl ?_
      refine own_istore (L' := #[.val (.ref a1), .val (.ref a2), .val (.int p3), .val (.int p4), .val (.int (5 : Int32)), .val (.ref a194), .val (.ref a210), .val (.int (own_z_f1 p3 p4 k0 k1 k2 k3 k4 o0 o1 o2 o3 o4)), .val (.int (2 : Int32)), .val (.int (own_z_ct2 p4 o0 o1 o2 o3 o4))]) X244 hx (hb hby own_d3_75) (q := 77) rfl rfl ?_
      refine own_aload X244 hx (hb hby own_d3_77) (q := 79) rfl rfl rfl ?_
      refine own_iload X244 hx (hb hby own_d3_79) (q := 81) rfl rfl ?_
      refine own_zaload X244 hx hZ (i := (own_z_ct2 p4 o0 o1 o2 o3 o4).toNatClampNeg) (v := .int (own_z_tk2 p3 p4 k0 k1 k2 k3 k4 o0 o1 o2 o3 o4)) e245 A260 (own_nn5 (own_z_cr ho (own_z_rt2 hL))) rfl (own_bV (own_z_cr ho (own_z_rt2 hL))) (hb hby own_d3_81) (q := 82) rfl ?_
      have J2 : ∀ (f261 : Int32) (y262 : Int32) (y263 : Int32) (y264 : Int32) (y265 : Int32) (y266 : Int32) (T267 : State) (h270 : Heap) (L273 : List Loc), own_Lk X244 T267 L273 → T267.heap = h270 → own_A Z h270 a1 .int [.int k0, .int k1, .int k2, .int k3, .int k4] → own_A Z h270 a2 .int [.int o0, .int o1, .int o2, .int o3, .int o4] → own_A Z h270 a194 .int [.int y262, .int y263, .int y264, .int y265, .int y266] → own_A Z h270 a210 .boolean [.int (own_z_b p3 p4 k0 k1 k2 k3 k4 0), .int (own_z_b p3 p4 k0 k1 k2 k3 k4 1), .int (own_z_b p3 p4 k0 k1 k2 k3 k4 2), .int (own_z_b p3 p4 k0 k1 k2 k3 k4 3), .int (own_z_b p3 p4 k0 k1 k2 k3 k4 4)] → n0 ≤ h270.size → Keep h0 h270 [] → Fr n0 L273 → f261 = own_z_f2 p3 p4 k0 k1 k2 k3 k4 o0 o1 o2 o3 o4 → y262 = own_z_y2_0 0 p3 p4 k0 k1 k2 k3 k4 o0 o1 o2 o3 o4 → y263 = own_z_y2_1 0 p3 p4 k0 k1 k2 k3 k4 o0 o1 o2 o3 o4 → y264 = own_z_y2_2 0 p3 p4 k0 k1 k2 k3 k4 o0 o1 o2 o3 o4 → y265 = own_z_y2_3 0 p3 p4 k0 k1 k2 k3 k4 o0 o1 o2 o3 o4 → y266 = own_z_y2_4 0 p3 p4 k0 k1 k2 k3 k4 o0 o1 o2 o3 o4 → own_Go p e below (own_E s 2 10 (own_Q3 Z a1 a2 p3 p4 k0 k1 k2 k3 k4 o0 o1 o2 o3 o4 h0 n0)) (T267.setTop (mkF m 101 #[.val (.ref a1), .val (.ref a2), .val (.int p3), .val (.int p4), .val (.int (5 : Int32)), .val (.ref a194), .val (.ref a210), .val (.int f261), .val (.int (2 : Int32)), .val (.int (own_z_ct2 p4 o0 o1 o2 o3 o4))] [])) := by
        intro f261 y262 y263 y264 y265 y266 T267 h270 L273 X268 e269 A281 A282 A283 A284 Z272 K280 N271 hy274 hy275 hy276 hy277 hy278 hy279
        replace X268 := own_Lk.get X268
        subst hy274
        subst hy275
        subst hy276
        subst hy277
        subst hy278
        subst hy279
        refine own_iinc (L' := #[.val (.ref a1), .val (.ref a2), .val (.int p3), .val (.int p4), .val (.int (5 : Int32)), .val (.ref a194), .val (.ref a210), .val (.int (own_z_f2 p3 p4 k0 k1 k2 k3 k4 o0 o1 o2 o3 o4)), .val (.int ((2 : Int32) + (1 : Int32))), .val (.int (own_z_ct2 p4 o0 o1 o2 o3 o4))]) X268 hx (v := (1 : Int32)) (hb hby own_d3_101) (q := 104) rfl rfl rfl rfl ?_
        rw [show ((2 : Int32) + (1 : Int32) : Int32) = (3 : Int32) from by decide]
        refine own_goto X268 hx (hb hby own_d3_104) (q := 59) (by decide) (by decide) ?_
        refine own_iload X268 hx (hb hby own_d3_59) (q := 61) rfl rfl ?_
        refine own_iload X268 hx (hb hby own_d3_61) (q := 63) rfl rfl ?_
        refine own_icmpP X268 hx (hb hby own_d3_63) (cd := .gt) (x := (3 : Int32)) (y := (5 : Int32)) (pt := 107) (q := 66) (by decide) (by decide) rfl rfl (fun h => False.elim (((by decide) : ¬ ((5 : Int32) < (3 : Int32))) h)) (fun _ => ?_)
        refine own_aloadN X268 hx (hb hby own_d3_66) (q := 67) rfl rfl rfl ?_
        refine own_iloadN X268 hx (hb hby own_d3_67) (q := 68) rfl rfl ?_
        refine own_iload X268 hx (hb hby own_d3_68) (q := 70) rfl rfl ?_
        refine own_iadd X268 hx (hb hby own_d3_70) (q := 71) rfl ?_
        refine own_iload X268 hx (hb hby own_d3_71) (q := 73) rfl rfl ?_
        refine own_irem X268 hx (hb hby own_d3_73) (q := 74) rfl (by decide) ?_
        refine own_iaload X268 hx hZ (i := ((p4 + (3 : Int32)) % (5 : Int32)).toNatClampNeg) (v := .int (own_z_ct3 p4 o0 o1 o2 o3 o4)) e269 A282 (own_nn5 (own_z_rt3 hL)) rfl (own_cat5V (own_z_rt3 hL)) (hb hby own_d3_74) (q := 75) rfl ?_
        refine own_istore (L' := #[.val (.ref a1), .val (.ref a2), .val (.int p3), .val (.int p4), .val (.int (5 : Int32)), .val (.ref a194), .val (.ref a210), .val (.int (own_z_f2 p3 p4 k0 k1 k2 k3 k4 o0 o1 o2 o3 o4)), .val (.int (3 : Int32)), .val (.int (own_z_ct3 p4 o0 o1 o2 o3 o4))]) X268 hx (hb hby own_d3_75) (q := 77) rfl rfl ?_
        refine own_aload X268 hx (hb hby own_d3_77) (q := 79) rfl rfl rfl ?_
        refine own_iload X268 hx (hb hby own_d3_79) (q := 81) rfl rfl ?_
        refine own_zaload X268 hx hZ (i := (own_z_ct3 p4 o0 o1 o2 o3 o4).toNatClampNeg) (v := .int (own_z_tk3 p3 p4 k0 k1 k2 k3 k4 o0 o1 o2 o3 o4)) e269 A284 (own_nn5 (own_z_cr ho (own_z_rt3 hL))) rfl (own_bV (own_z_cr ho (own_z_rt3 hL))) (hb hby own_d3_81) (q := 82) rfl ?_
        have J3 : ∀ (f285 : Int32) (y286 : Int32) (y287 : Int32) (y288 : Int32) (y289 : Int32) (y290 : Int32) (T291 : State) (h294 : Heap) (L297 : List Loc), own_Lk X268 T291 L297 → T291.heap = h294 → own_A Z h294 a1 .int [.int k0, .int k1, .int k2, .int k3, .int k4] → own_A Z h294 a2 .int [.int o0, .int o1, .int o2, .int o3, .int o4] → own_A Z h294 a194 .int [.int y286, .int y287, .int y288, .int y289, .int y290] → own_A Z h294 a210 .boolean [.int (own_z_b p3 p4 k0 k1 k2 k3 k4 0), .int (own_z_b p3 p4 k0 k1 k2 k3 k4 1), .int (own_z_b p3 p4 k0 k1 k2 k3 k4 2), .int (own_z_b p3 p4 k0 k1 k2 k3 k4 3), .int (own_z_b p3 p4 k0 k1 k2 k3 k4 4)] → n0 ≤ h294.size → Keep h0 h294 [] → Fr n0 L297 → f285 = own_z_f3 p3 p4 k0 k1 k2 k3 k4 o0 o1 o2 o3 o4 → y286 = own_z_y3_0 0 p3 p4 k0 k1 k2 k3 k4 o0 o1 o2 o3 o4 → y287 = own_z_y3_1 0 p3 p4 k0 k1 k2 k3 k4 o0 o1 o2 o3 o4 → y288 = own_z_y3_2 0 p3 p4 k0 k1 k2 k3 k4 o0 o1 o2 o3 o4 → y289 = own_z_y3_3 0 p3 p4 k0 k1 k2 k3 k4 o0 o1 o2 o3 o4 → y290 = own_z_y3_4 0 p3 p4 k0 k1 k2 k3 k4 o0 o1 o2 o3 o4 → own_Go p e below (own_E s 2 10 (own_Q3 Z a1 a2 p3 p4 k0 k1 k2 k3 k4 o0 o1 o2 o3 o4 h0 n0)) (T291.setTop (mkF m 101 #[.val (.ref a1), .val (.ref a2), .val (.int p3), .val (.int p4), .val (.int (5 : Int32)), .val (.ref a194), .val (.ref a210), .val (.int f285), .val (.int (3 : Int32)), .val (.int (own_z_ct3 p4 o0 o1 o2 o3 o4))] [])) := by
          intro f285 y286 y287 y288 y289 y290 T291 h294 L297 X292 e293 A305 A306 A307 A308 Z296 K304 N295 hy298 hy299 hy300 hy301 hy302 hy303
          replace X292 := own_Lk.get X292
          subst hy298
          subst hy299
          subst hy300
          subst hy301
          subst hy302
          subst hy303
          refine own_iinc (L' := #[.val (.ref a1), .val (.ref a2), .val (.int p3), .val (.int p4), .val (.int (5 : Int32)), .val (.ref a194), .val (.ref a210), .val (.int (own_z_f3 p3 p4 k0 k1 k2 k3 k4 o0 o1 o2 o3 o4)), .val (.int ((3 : Int32) + (1 : Int32))), .val (.int (own_z_ct3 p4 o0 o1 o2 o3 o4))]) X292 hx (v := (1 : Int32)) (hb hby own_d3_101) (q := 104) rfl rfl rfl rfl ?_
          rw [show ((3 : Int32) + (1 : Int32) : Int32) = (4 : Int32) from by decide]
          refine own_goto X292 hx (hb hby own_d3_104) (q := 59) (by decide) (by decide) ?_
          refine own_iload X292 hx (hb hby own_d3_59) (q := 61) rfl rfl ?_
          refine own_iload X292 hx (hb hby own_d3_61) (q := 63) rfl rfl ?_
          refine own_icmpP X292 hx (hb hby own_d3_63) (cd := .gt) (x := (4 : Int32)) (y := (5 : Int32)) (pt := 107) (q := 66) (by decide) (by decide) rfl rfl (fun h => False.elim (((by decide) : ¬ ((5 : Int32) < (4 : Int32))) h)) (fun _ => ?_)
          refine own_aloadN X292 hx (hb hby own_d3_66) (q := 67) rfl rfl rfl ?_
          refine own_iloadN X292 hx (hb hby own_d3_67) (q := 68) rfl rfl ?_
          refine own_iload X292 hx (hb hby own_d3_68) (q := 70) rfl rfl ?_
          refine own_iadd X292 hx (hb hby own_d3_70) (q := 71) rfl ?_
          refine own_iload X292 hx (hb hby own_d3_71) (q := 73) rfl rfl ?_
          refine own_irem X292 hx (hb hby own_d3_73) (q := 74) rfl (by decide) ?_
          refine own_iaload X292 hx hZ (i := ((p4 + (4 : Int32)) % (5 : Int32)).toNatClampNeg) (v := .int (own_z_ct4 p4 o0 o1 o2 o3 o4)) e293 A306 (own_nn5 (own_z_rt4 hL)) rfl (own_cat5V (own_z_rt4 hL)) (hb hby own_d3_74) (q := 75) rfl ?_
          refine own_istore (L' := #[.val (.ref a1), .val (.ref a2), .val (.int p3), .val (.int p4), .val (.int (5 : Int32)), .val (.ref a194), .val (.ref a210), .val (.int (own_z_f3 p3 p4 k0 k1 k2 k3 k4 o0 o1 o2 o3 o4)), .val (.int (4 : Int32)), .val (.int (own_z_ct4 p4 o0 o1 o2 o3 o4))]) X292 hx (hb hby own_d3_75) (q := 77) rfl rfl ?_
          refine own_aload X292 hx (hb hby own_d3_77) (q := 79) rfl rfl rfl ?_
          refine own_iload X292 hx (hb hby own_d3_79) (q := 81) rfl rfl ?_
          refine own_zaload X292 hx hZ (i := (own_z_ct4 p4 o0 o1 o2 o3 o4).toNatClampNeg) (v := .int (own_z_tk4 p3 p4 k0 k1 k2 k3 k4 o0 o1 o2 o3 o4)) e293 A308 (own_nn5 (own_z_cr ho (own_z_rt4 hL))) rfl (own_bV (own_z_cr ho (own_z_rt4 hL))) (hb hby own_d3_81) (q := 82) rfl ?_
          have J4 : ∀ (f309 : Int32) (y310 : Int32) (y311 : Int32) (y312 : Int32) (y313 : Int32) (y314 : Int32) (T315 : State) (h318 : Heap) (L321 : List Loc), own_Lk X292 T315 L321 → T315.heap = h318 → own_A Z h318 a1 .int [.int k0, .int k1, .int k2, .int k3, .int k4] → own_A Z h318 a2 .int [.int o0, .int o1, .int o2, .int o3, .int o4] → own_A Z h318 a194 .int [.int y310, .int y311, .int y312, .int y313, .int y314] → own_A Z h318 a210 .boolean [.int (own_z_b p3 p4 k0 k1 k2 k3 k4 0), .int (own_z_b p3 p4 k0 k1 k2 k3 k4 1), .int (own_z_b p3 p4 k0 k1 k2 k3 k4 2), .int (own_z_b p3 p4 k0 k1 k2 k3 k4 3), .int (own_z_b p3 p4 k0 k1 k2 k3 k4 4)] → n0 ≤ h318.size → Keep h0 h318 [] → Fr n0 L321 → f309 = own_z_f4 p3 p4 k0 k1 k2 k3 k4 o0 o1 o2 o3 o4 → y310 = own_z_y4_0 0 p3 p4 k0 k1 k2 k3 k4 o0 o1 o2 o3 o4 → y311 = own_z_y4_1 0 p3 p4 k0 k1 k2 k3 k4 o0 o1 o2 o3 o4 → y312 = own_z_y4_2 0 p3 p4 k0 k1 k2 k3 k4 o0 o1 o2 o3 o4 → y313 = own_z_y4_3 0 p3 p4 k0 k1 k2 k3 k4 o0 o1 o2 o3 o4 → y314 = own_z_y4_4 0 p3 p4 k0 k1 k2 k3 k4 o0 o1 o2 o3 o4 → own_Go p e below (own_E s 2 10 (own_Q3 Z a1 a2 p3 p4 k0 k1 k2 k3 k4 o0 o1 o2 o3 o4 h0 n0)) (T315.setTop (mkF m 101 #[.val (.ref a1), .val (.ref a2), .val (.int p3), .val (.int p4), .val (.int (5 : Int32)), .val (.ref a194), .val (.ref a210), .val (.int f309), .val (.int (4 : Int32)), .val (.int (own_z_ct4 p4 o0 o1 o2 o3 o4))] [])) := by
            intro f309 y310 y311 y312 y313 y314 T315 h318 L321 X316 e317 A329 A330 A331 A332 Z320 K328 N319 hy322 hy323 hy324 hy325 hy326 hy327
            replace X316 := own_Lk.get X316
            subst hy322
            subst hy323
            subst hy324
            subst hy325
            subst hy326
            subst hy327
            refine own_iinc (L' := #[.val (.ref a1), .val (.ref a2), .val (.int p3), .val (.int p4), .val (.int (5 : Int32)), .val (.ref a194), .val (.ref a210), .val (.int (own_z_f4 p3 p4 k0 k1 k2 k3 k4 o0 o1 o2 o3 o4)), .val (.int ((4 : Int32) + (1 : Int32))), .val (.int (own_z_ct4 p4 o0 o1 o2 o3 o4))]) X316 hx (v := (1 : Int32)) (hb hby own_d3_101) (q := 104) rfl rfl rfl rfl ?_
            rw [show ((4 : Int32) + (1 : Int32) : Int32) = (5 : Int32) from by decide]
            refine own_goto X316 hx (hb hby own_d3_104) (q := 59) (by decide) (by decide) ?_
            refine own_iload X316 hx (hb hby own_d3_59) (q := 61) rfl rfl ?_
            refine own_iload X316 hx (hb hby own_d3_61) (q := 63) rfl rfl ?_
            refine own_icmpP X316 hx (hb hby own_d3_63) (cd := .gt) (x := (5 : Int32)) (y := (5 : Int32)) (pt := 107) (q := 66) (by decide) (by decide) rfl rfl (fun h => False.elim (((by decide) : ¬ ((5 : Int32) < (5 : Int32))) h)) (fun _ => ?_)
            refine own_aloadN X316 hx (hb hby own_d3_66) (q := 67) rfl rfl rfl ?_
            refine own_iloadN X316 hx (hb hby own_d3_67) (q := 68) rfl rfl ?_
            refine own_iload X316 hx (hb hby own_d3_68) (q := 70) rfl rfl ?_
            refine own_iadd X316 hx (hb hby own_d3_70) (q := 71) rfl ?_
            refine own_iload X316 hx (hb hby own_d3_71) (q := 73) rfl rfl ?_
            refine own_irem X316 hx (hb hby own_d3_73) (q := 74) rfl (by decide) ?_
            refine own_iaload X316 hx hZ (i := ((p4 + (5 : Int32)) % (5 : Int32)).toNatClampNeg) (v := .int (own_z_ct5 p4 o0 o1 o2 o3 o4)) e317 A330 (own_nn5 (own_z_rt5 hL)) rfl (own_cat5V (own_z_rt5 hL)) (hb hby own_d3_74) (q := 75) rfl ?_
            refine own_istore (L' := #[.val (.ref a1), .val (.ref a2), .val (.int p3), .val (.int p4), .val (.int (5 : Int32)), .val (.ref a194), .val (.ref a210), .val (.int (own_z_f4 p3 p4 k0 k1 k2 k3 k4 o0 o1 o2 o3 o4)), .val (.int (5 : Int32)), .val (.int (own_z_ct5 p4 o0 o1 o2 o3 o4))]) X316 hx (hb hby own_d3_75) (q := 77) rfl rfl ?_
            refine own_aload X316 hx (hb hby own_d3_77) (q := 79) rfl rfl rfl ?_
            refine own_iload X316 hx (hb hby own_d3_79) (q := 81) rfl rfl ?_
            refine own_zaload X316 hx hZ (i := (own_z_ct5 p4 o0 o1 o2 o3 o4).toNatClampNeg) (v := .int (own_z_tk5 p3 p4 k0 k1 k2 k3 k4 o0 o1 o2 o3 o4)) e317 A332 (own_nn5 (own_z_cr ho (own_z_rt5 hL))) rfl (own_bV (own_z_cr ho (own_z_rt5 hL))) (hb hby own_d3_81) (q := 82) rfl ?_
            have J5 : ∀ (f333 : Int32) (y334 : Int32) (y335 : Int32) (y336 : Int32) (y337 : Int32) (y338 : Int32) (T339 : State) (h342 : Heap) (L345 : List Loc), own_Lk X316 T339 L345 → T339.heap = h342 → own_A Z h342 a1 .int [.int k0, .int k1, .int k2, .int k3, .int k4] → own_A Z h342 a2 .int [.int o0, .int o1, .int o2, .int o3, .int o4] → own_A Z h342 a194 .int [.int y334, .int y335, .int y336, .int y337, .int y338] → own_A Z h342 a210 .boolean [.int (own_z_b p3 p4 k0 k1 k2 k3 k4 0), .int (own_z_b p3 p4 k0 k1 k2 k3 k4 1), .int (own_z_b p3 p4 k0 k1 k2 k3 k4 2), .int (own_z_b p3 p4 k0 k1 k2 k3 k4 3), .int (own_z_b p3 p4 k0 k1 k2 k3 k4 4)] → n0 ≤ h342.size → Keep h0 h342 [] → Fr n0 L345 → f333 = own_z_f5 p3 p4 k0 k1 k2 k3 k4 o0 o1 o2 o3 o4 → y334 = own_z_y5_0 0 p3 p4 k0 k1 k2 k3 k4 o0 o1 o2 o3 o4 → y335 = own_z_y5_1 0 p3 p4 k0 k1 k2 k3 k4 o0 o1 o2 o3 o4 → y336 = own_z_y5_2 0 p3 p4 k0 k1 k2 k3 k4 o0 o1 o2 o3 o4 → y337 = own_z_y5_3 0 p3 p4 k0 k1 k2 k3 k4 o0 o1 o2 o3 o4 → y338 = own_z_y5_4 0 p3 p4 k0 k1 k2 k3 k4 o0 o1 o2 o3 o4 → own_Go p e below (own_E s 2 10 (own_Q3 Z a1 a2 p3 p4 k0 k1 k2 k3 k4 o0 o1 o2 o3 o4 h0 n0)) (T339.setTop (mkF m 101 #[.val (.ref a1), .val (.ref a2), .val (.int p3), .val (.int p4), .val (.int (5 : Int32)), .val (.ref a194), .val (.ref a210), .val (.int f333), .val (.int (5 : Int32)), .val (.int (own_z_ct5 p4 o0 o1 o2 o3 o4))] [])) := by
              intro f333 y334 y335 y336 y337 y338 T339 h342 L345 X340 e341 A353 A354 A355 A356 Z344 K352 N343 hy346 hy347 hy348 hy349 hy350 hy351
              replace X340 := own_Lk.get X340
              subst hy346
              subst hy347
              subst hy348
              subst hy349
              subst hy350
              subst hy351
              refine own_iinc (L' := #[.val (.ref a1), .val (.ref a2), .val (.int p3), .val (.int p4), .val (.int (5 : Int32)), .val (.ref a194), .val (.ref a210), .val (.int (own_z_f5 p3 p4 k0 k1 k2 k3 k4 o0 o1 o2 o3 o4)), .val (.int ((5 : Int32) + (1 : Int32))), .val (.int (own_z_ct5 p4 o0 o1 o2 o3 o4))]) X340 hx (v := (1 : Int32)) (hb hby own_d3_101) (q := 104) rfl rfl rfl rfl ?_
              rw [show ((5 : Int32) + (1 : Int32) : Int32) = (6 : Int32) from by decide]
              refine own_goto X340 hx (hb hby own_d3_104) (q := 59) (by decide) (by decide) ?_
              refine own_iload X340 hx (hb hby own_d3_59) (q := 61) rfl rfl ?_
              refine own_iload X340 hx (hb hby own_d3_61) (q := 63) rfl rfl ?_
              refine own_icmpP X340 hx (hb hby own_d3_63) (cd := .gt) (x := (6 : Int32)) (y := (5 : Int32)) (pt := 107) (q := 66) (by decide) (by decide) rfl rfl (fun _ => ?_) (fun h => False.elim (h ((by decide) : (5 : Int32) < (6 : Int32))))
              refine own_aload X340 hx (hb hby own_d3_107) (q := 109) rfl rfl rfl ?_
              refine own_retA X340 hx hlk rfl rfl rfl Bd.returns (hb hby own_d3_109) ?_ (by decide) (by decide)
              show own_Q3 Z a1 a2 p3 p4 k0 k1 k2 k3 k4 o0 o1 o2 o3 o4 h0 n0 _ T339.heap _
              rw [e341]
              exact ⟨a194, rfl, N343, K352, O198, A355⟩
            refine own_if0M X316 hx (hb hby own_d3_82) (cd := .ne) (x := own_z_tk5 p3 p4 k0 k1 k2 k3 k4 o0 o1 o2 o3 o4) (pt := 101) (q := 85) (by decide) (by decide) rfl rfl (fun (c7 : ¬ ((own_z_tk5 p3 p4 k0 k1 k2 k3 k4 o0 o1 o2 o3 o4) = (0 : Int32))) => ?_) (fun (c7 : (own_z_tk5 p3 p4 k0 k1 k2 k3 k4 o0 o1 o2 o3 o4) = (0 : Int32)) => ?_)
            · exact J5 _ _ _ _ _ _ _ _ _ X316 e317 A329 A330 A331 A332 Z320 K328 N319 (own_fnN c7) (own_ynN c7) (own_ynN c7) (own_ynN c7) (own_ynN c7) (own_ynN c7)
            · refine own_aload X316 hx (hb hby own_d3_85) (q := 87) rfl rfl rfl ?_
              refine own_iload X316 hx (hb hby own_d3_87) (q := 89) rfl rfl ?_
              refine own_iload X316 hx (hb hby own_d3_89) (q := 91) rfl rfl ?_
              refine own_iastore X316 hx hZ (i := (own_z_f4 p3 p4 k0 k1 k2 k3 k4 o0 o1 o2 o3 o4).toNatClampNeg) e317 A331 (own_nn5 (j := own_z_f4 p3 p4 k0 k1 k2 k3 k4 o0 o1 o2 o3 o4) (own_rfn (own_rfn (own_rfn (own_rfn (own_z_rt1 hL)))))) rfl (own_lt5 (j := own_z_f4 p3 p4 k0 k1 k2 k3 k4 o0 o1 o2 o3 o4) (own_rfn (own_rfn (own_rfn (own_rfn (own_z_rt1 hL)))))) (hb hby own_d3_91) (q := 92) rfl (fun T357 h360 X358 e359 W361 A362 => ?_)
              replace A362 : own_A Z h360 a194 .int [.int (own_z_up (own_z_f4 p3 p4 k0 k1 k2 k3 k4 o0 o1 o2 o3 o4) 0 (own_z_ct5 p4 o0 o1 o2 o3 o4) (own_z_y4_0 0 p3 p4 k0 k1 k2 k3 k4 o0 o1 o2 o3 o4)), .int (own_z_up (own_z_f4 p3 p4 k0 k1 k2 k3 k4 o0 o1 o2 o3 o4) 1 (own_z_ct5 p4 o0 o1 o2 o3 o4) (own_z_y4_1 0 p3 p4 k0 k1 k2 k3 k4 o0 o1 o2 o3 o4)), .int (own_z_up (own_z_f4 p3 p4 k0 k1 k2 k3 k4 o0 o1 o2 o3 o4) 2 (own_z_ct5 p4 o0 o1 o2 o3 o4) (own_z_y4_2 0 p3 p4 k0 k1 k2 k3 k4 o0 o1 o2 o3 o4)), .int (own_z_up (own_z_f4 p3 p4 k0 k1 k2 k3 k4 o0 o1 o2 o3 o4) 3 (own_z_ct5 p4 o0 o1 o2 o3 o4) (own_z_y4_3 0 p3 p4 k0 k1 k2 k3 k4 o0 o1 o2 o3 o4)), .int (own_z_up (own_z_f4 p3 p4 k0 k1 k2 k3 k4 o0 o1 o2 o3 o4) 4 (own_z_ct5 p4 o0 o1 o2 o3 o4) (own_z_y4_4 0 p3 p4 k0 k1 k2 k3 k4 o0 o1 o2 o3 o4))] := by rw [own_set5 (j := own_z_f4 p3 p4 k0 k1 k2 k3 k4 o0 o1 o2 o3 o4) (own_rfn (own_rfn (own_rfn (own_rfn (own_z_rt1 hL)))))] at A362; exact A362
              have A363 := A329.other W361 ne202
              have A364 := A330.other W361 ne203
              have A365 := A332.other W361 (Ne.symm ne221)
              have K366 := K328.wr W361 (Or.inr O198)
              have Z367 : n0 ≤ h360.size := W361.size ▸ Z320
              have N368 := Fr.snoc X358 N319 Z204
              refine own_iload X358 hx (hb hby own_d3_92) (q := 94) rfl rfl ?_
              refine own_iconst X358 hx (v := (1 : Int32)) (hb hby own_d3_94) (q := 95) rfl rfl ?_
              refine own_iadd X358 hx (hb hby own_d3_95) (q := 96) rfl ?_
              refine own_iload X358 hx (hb hby own_d3_96) (q := 98) rfl rfl ?_
              refine own_irem X358 hx (hb hby own_d3_98) (q := 99) rfl (by decide) ?_
              refine own_istore (L' := #[.val (.ref a1), .val (.ref a2), .val (.int p3), .val (.int p4), .val (.int (5 : Int32)), .val (.ref a194), .val (.ref a210), .val (.int (((own_z_f4 p3 p4 k0 k1 k2 k3 k4 o0 o1 o2 o3 o4) + (1 : Int32)) % (5 : Int32))), .val (.int (5 : Int32)), .val (.int (own_z_ct5 p4 o0 o1 o2 o3 o4))]) X358 hx (hb hby own_d3_99) (q := 101) rfl rfl ?_
              exact J5 _ _ _ _ _ _ _ _ _ X358 e359 A363 A364 A362 A365 Z367 K366 N368 (own_fnY c7) (own_ynY c7) (own_ynY c7) (own_ynY c7) (own_ynY c7) (own_ynY c7)
          refine own_if0M X292 hx (hb hby own_d3_82) (cd := .ne) (x := own_z_tk4 p3 p4 k0 k1 k2 k3 k4 o0 o1 o2 o3 o4) (pt := 101) (q := 85) (by decide) (by decide) rfl rfl (fun (c8 : ¬ ((own_z_tk4 p3 p4 k0 k1 k2 k3 k4 o0 o1 o2 o3 o4) = (0 : Int32))) => ?_) (fun (c8 : (own_z_tk4 p3 p4 k0 k1 k2 k3 k4 o0 o1 o2 o3 o4) = (0 : Int32)) => ?_)
          · exact J4 _ _ _ _ _ _ _ _ _ X292 e293 A305 A306 A307 A308 Z296 K304 N295 (own_fnN c8) (own_ynN c8) (own_ynN c8) (own_ynN c8) (own_ynN c8) (own_ynN c8)
          · refine own_aload X292 hx (hb hby own_d3_85) (q := 87) rfl rfl rfl ?_
            refine own_iload X292 hx (hb hby own_d3_87) (q := 89) rfl rfl ?_
            refine own_iload X292 hx (hb hby own_d3_89) (q := 91) rfl rfl ?_
            refine own_iastore X292 hx hZ (i := (own_z_f3 p3 p4 k0 k1 k2 k3 k4 o0 o1 o2 o3 o4).toNatClampNeg) e293 A307 (own_nn5 (j := own_z_f3 p3 p4 k0 k1 k2 k3 k4 o0 o1 o2 o3 o4) (own_rfn (own_rfn (own_rfn (own_z_rt1 hL))))) rfl (own_lt5 (j := own_z_f3 p3 p4 k0 k1 k2 k3 k4 o0 o1 o2 o3 o4) (own_rfn (own_rfn (own_rfn (own_z_rt1 hL))))) (hb hby own_d3_91) (q := 92) rfl (fun T369 h372 X370 e371 W373 A374 => ?_)
            replace A374 : own_A Z h372 a194 .int [.int (own_z_up (own_z_f3 p3 p4 k0 k1 k2 k3 k4 o0 o1 o2 o3 o4) 0 (own_z_ct4 p4 o0 o1 o2 o3 o4) (own_z_y3_0 0 p3 p4 k0 k1 k2 k3 k4 o0 o1 o2 o3 o4)), .int (own_z_up (own_z_f3 p3 p4 k0 k1 k2 k3 k4 o0 o1 o2 o3 o4) 1 (own_z_ct4 p4 o0 o1 o2 o3 o4) (own_z_y3_1 0 p3 p4 k0 k1 k2 k3 k4 o0 o1 o2 o3 o4)), .int (own_z_up (own_z_f3 p3 p4 k0 k1 k2 k3 k4 o0 o1 o2 o3 o4) 2 (own_z_ct4 p4 o0 o1 o2 o3 o4) (own_z_y3_2 0 p3 p4 k0 k1 k2 k3 k4 o0 o1 o2 o3 o4)), .int (own_z_up (own_z_f3 p3 p4 k0 k1 k2 k3 k4 o0 o1 o2 o3 o4) 3 (own_z_ct4 p4 o0 o1 o2 o3 o4) (own_z_y3_3 0 p3 p4 k0 k1 k2 k3 k4 o0 o1 o2 o3 o4)), .int (own_z_up (own_z_f3 p3 p4 k0 k1 k2 k3 k4 o0 o1 o2 o3 o4) 4 (own_z_ct4 p4 o0 o1 o2 o3 o4) (own_z_y3_4 0 p3 p4 k0 k1 k2 k3 k4 o0 o1 o2 o3 o4))] := by rw [own_set5 (j := own_z_f3 p3 p4 k0 k1 k2 k3 k4 o0 o1 o2 o3 o4) (own_rfn (own_rfn (own_rfn (own_z_rt1 hL))))] at A374; exact A374
            have A375 := A305.other W373 ne202
            have A376 := A306.other W373 ne203
            have A377 := A308.other W373 (Ne.symm ne221)
            have K378 := K304.wr W373 (Or.inr O198)
            have Z379 : n0 ≤ h372.size := W373.size ▸ Z296
            have N380 := Fr.snoc X370 N295 Z204
            refine own_iload X370 hx (hb hby own_d3_92) (q := 94) rfl rfl ?_
            refine own_iconst X370 hx (v := (1 : Int32)) (hb hby own_d3_94) (q := 95) rfl rfl ?_
            refine own_iadd X370 hx (hb hby own_d3_95) (q := 96) rfl ?_
            refine own_iload X370 hx (hb hby own_d3_96) (q := 98) rfl rfl ?_
            refine own_irem X370 hx (hb hby own_d3_98) (q := 99) rfl (by decide) ?_
            refine own_istore (L' := #[.val (.ref a1), .val (.ref a2), .val (.int p3), .val (.int p4), .val (.int (5 : Int32)), .val (.ref a194), .val (.ref a210), .val (.int (((own_z_f3 p3 p4 k0 k1 k2 k3 k4 o0 o1 o2 o3 o4) + (1 : Int32)) % (5 : Int32))), .val (.int (4 : Int32)), .val (.int (own_z_ct4 p4 o0 o1 o2 o3 o4))]) X370 hx (hb hby own_d3_99) (q := 101) rfl rfl ?_
            exact J4 _ _ _ _ _ _ _ _ _ X370 e371 A375 A376 A374 A377 Z379 K378 N380 (own_fnY c8) (own_ynY c8) (own_ynY c8) (own_ynY c8) (own_ynY c8) (own_ynY c8)
        refine own_if0M X268 hx (hb hby own_d3_82) (cd := .ne) (x := own_z_tk3 p3 p4 k0 k1 k2 k3 k4 o0 o1 o2 o3 o4) (pt := 101) (q := 85) (by decide) (by decide) rfl rfl (fun (c9 : ¬ ((own_z_tk3 p3 p4 k0 k1 k2 k3 k4 o0 o1 o2 o3 o4) = (0 : Int32))) => ?_) (fun (c9 : (own_z_tk3 p3 p4 k0 k1 k2 k3 k4 o0 o1 o2 o3 o4) = (0 : Int32)) => ?_)
        · exact J3 _ _ _ _ _ _ _ _ _ X268 e269 A281 A282 A283 A284 Z272 K280 N271 (own_fnN c9) (own_ynN c9) (own_ynN c9) (own_ynN c9) (own_ynN c9) (own_ynN c9)
        · refine own_aload X268 hx (hb hby own_d3_85) (q := 87) rfl rfl rfl ?_
          refine own_iload X268 hx (hb hby own_d3_87) (q := 89) rfl rfl ?_
          refine own_iload X268 hx (hb hby own_d3_89) (q := 91) rfl rfl ?_
          refine own_iastore X268 hx hZ (i := (own_z_f2 p3 p4 k0 k1 k2 k3 k4 o0 o1 o2 o3 o4).toNatClampNeg) e269 A283 (own_nn5 (j := own_z_f2 p3 p4 k0 k1 k2 k3 k4 o0 o1 o2 o3 o4) (own_rfn (own_rfn (own_z_rt1 hL)))) rfl (own_lt5 (j := own_z_f2 p3 p4 k0 k1 k2 k3 k4 o0 o1 o2 o3 o4) (own_rfn (own_rfn (own_z_rt1 hL)))) (hb hby own_d3_91) (q := 92) rfl (fun T381 h384 X382 e383 W385 A386 => ?_)
          replace A386 : own_A Z h384 a194 .int [.int (own_z_up (own_z_f2 p3 p4 k0 k1 k2 k3 k4 o0 o1 o2 o3 o4) 0 (own_z_ct3 p4 o0 o1 o2 o3 o4) (own_z_y2_0 0 p3 p4 k0 k1 k2 k3 k4 o0 o1 o2 o3 o4)), .int (own_z_up (own_z_f2 p3 p4 k0 k1 k2 k3 k4 o0 o1 o2 o3 o4) 1 (own_z_ct3 p4 o0 o1 o2 o3 o4) (own_z_y2_1 0 p3 p4 k0 k1 k2 k3 k4 o0 o1 o2 o3 o4)), .int (own_z_up (own_z_f2 p3 p4 k0 k1 k2 k3 k4 o0 o1 o2 o3 o4) 2 (own_z_ct3 p4 o0 o1 o2 o3 o4) (own_z_y2_2 0 p3 p4 k0 k1 k2 k3 k4 o0 o1 o2 o3 o4)), .int (own_z_up (own_z_f2 p3 p4 k0 k1 k2 k3 k4 o0 o1 o2 o3 o4) 3 (own_z_ct3 p4 o0 o1 o2 o3 o4) (own_z_y2_3 0 p3 p4 k0 k1 k2 k3 k4 o0 o1 o2 o3 o4)), .int (own_z_up (own_z_f2 p3 p4 k0 k1 k2 k3 k4 o0 o1 o2 o3 o4) 4 (own_z_ct3 p4 o0 o1 o2 o3 o4) (own_z_y2_4 0 p3 p4 k0 k1 k2 k3 k4 o0 o1 o2 o3 o4))] := by rw [own_set5 (j := own_z_f2 p3 p4 k0 k1 k2 k3 k4 o0 o1 o2 o3 o4) (own_rfn (own_rfn (own_z_rt1 hL)))] at A386; exact A386
          have A387 := A281.other W385 ne202
          have A388 := A282.other W385 ne203
          have A389 := A284.other W385 (Ne.symm ne221)
          have K390 := K280.wr W385 (Or.inr O198)
          have Z391 : n0 ≤ h384.size := W385.size ▸ Z272
          have N392 := Fr.snoc X382 N271 Z204
          refine own_iload X382 hx (hb hby own_d3_92) (q := 94) rfl rfl ?_
          refine own_iconst X382 hx (v := (1 : Int32)) (hb hby own_d3_94) (q := 95) rfl rfl ?_
          refine own_iadd X382 hx (hb hby own_d3_95) (q := 96) rfl ?_
          refine own_iload X382 hx (hb hby own_d3_96) (q := 98) rfl rfl ?_
          refine own_irem X382 hx (hb hby own_d3_98) (q := 99) rfl (by decide) ?_
          refine own_istore (L' := #[.val (.ref a1), .val (.ref a2), .val (.int p3), .val (.int p4), .val (.int (5 : Int32)), .val (.ref a194), .val (.ref a210), .val (.int (((own_z_f2 p3 p4 k0 k1 k2 k3 k4 o0 o1 o2 o3 o4) + (1 : Int32)) % (5 : Int32))), .val (.int (3 : Int32)), .val (.int (own_z_ct3 p4 o0 o1 o2 o3 o4))]) X382 hx (hb hby own_d3_99) (q := 101) rfl rfl ?_
          exact J3 _ _ _ _ _ _ _ _ _ X382 e383 A387 A388 A386 A389 Z391 K390 N392 (own_fnY c9) (own_ynY c9) (own_ynY c9) (own_ynY c9) (own_ynY c9) (own_ynY c9)
      refine own_if0M X244 hx (hb hby own_d3_82) (cd := .ne) (x := own_z_tk2 p3 p4 k0 k1 k2 k3 k4 o0 o1 o2 o3 o4) (pt := 101) (q := 85) (by decide) (by decide) rfl rfl (fun (c10 : ¬ ((own_z_tk2 p3 p4 k0 k1 k2 k3 k4 o0 o1 o2 o3 o4) = (0 : Int32))) => ?_) (fun (c10 : (own_z_tk2 p3 p4 k0 k1 k2 k3 k4 o0 o1 o2 o3 o4) = (0 : Int32)) => ?_)
      · exact J2 _ _ _ _ _ _ _ _ _ X244 e245 A257 A258 A259 A260 Z248 K256 N247 (own_fnN c10) (own_ynN c10) (own_ynN c10) (own_ynN c10) (own_ynN c10) (own_ynN c10)
      · refine own_aload X244 hx (hb hby own_d3_85) (q := 87) rfl rfl rfl ?_
        refine own_iload X244 hx (hb hby own_d3_87) (q := 89) rfl rfl ?_
        refine own_iload X244 hx (hb hby own_d3_89) (q := 91) rfl rfl ?_
        refine own_iastore X244 hx hZ (i := (own_z_f1 p3 p4 k0 k1 k2 k3 k4 o0 o1 o2 o3 o4).toNatClampNeg) e245 A259 (own_nn5 (j := own_z_f1 p3 p4 k0 k1 k2 k3 k4 o0 o1 o2 o3 o4) (own_rfn (own_z_rt1 hL))) rfl (own_lt5 (j := own_z_f1 p3 p4 k0 k1 k2 k3 k4 o0 o1 o2 o3 o4) (own_rfn (own_z_rt1 hL))) (hb hby own_d3_91) (q := 92) rfl (fun T393 h396 X394 e395 W397 A398 => ?_)
        replace A398 : own_A Z h396 a194 .int [.int (own_z_up (own_z_f1 p3 p4 k0 k1 k2 k3 k4 o0 o1 o2 o3 o4) 0 (own_z_ct2 p4 o0 o1 o2 o3 o4) (own_z_y1_0 0 p3 p4 k0 k1 k2 k3 k4 o0 o1 o2 o3 o4)), .int (own_z_up (own_z_f1 p3 p4 k0 k1 k2 k3 k4 o0 o1 o2 o3 o4) 1 (own_z_ct2 p4 o0 o1 o2 o3 o4) (own_z_y1_1 0 p3 p4 k0 k1 k2 k3 k4 o0 o1 o2 o3 o4)), .int (own_z_up (own_z_f1 p3 p4 k0 k1 k2 k3 k4 o0 o1 o2 o3 o4) 2 (own_z_ct2 p4 o0 o1 o2 o3 o4) (own_z_y1_2 0 p3 p4 k0 k1 k2 k3 k4 o0 o1 o2 o3 o4)), .int (own_z_up (own_z_f1 p3 p4 k0 k1 k2 k3 k4 o0 o1 o2 o3 o4) 3 (own_z_ct2 p4 o0 o1 o2 o3 o4) (own_z_y1_3 0 p3 p4 k0 k1 k2 k3 k4 o0 o1 o2 o3 o4)), .int (own_z_up (own_z_f1 p3 p4 k0 k1 k2 k3 k4 o0 o1 o2 o3 o4) 4 (own_z_ct2 p4 o0 o1 o2 o3 o4) (own_z_y1_4 0 p3 p4 k0 k1 k2 k3 k4 o0 o1 o2 o3 o4))] := by rw [own_set5 (j := own_z_f1 p3 p4 k0 k1 k2 k3 k4 o0 o1 o2 o3 o4) (own_rfn (own_z_rt1 hL))] at A398; exact A398
        have A399 := A257.other W397 ne202
        have A400 := A258.other W397 ne203
        have A401 := A260.other W397 (Ne.symm ne221)
        have K402 := K256.wr W397 (Or.inr O198)
        have Z403 : n0 ≤ h396.size := W397.size ▸ Z248
        have N404 := Fr.snoc X394 N247 Z204
        refine own_iload X394 hx (hb hby own_d3_92) (q := 94) rfl rfl ?_
        refine own_iconst X394 hx (v := (1 : Int32)) (hb hby own_d3_94) (q := 95) rfl rfl ?_
        refine own_iadd X394 hx (hb hby own_d3_95) (q := 96) rfl ?_
        refine own_iload X394 hx (hb hby own_d3_96) (q := 98) rfl rfl ?_
        refine own_irem X394 hx (hb hby own_d3_98) (q := 99) rfl (by decide) ?_
        refine own_istore (L' := #[.val (.ref a1), .val (.ref a2), .val (.int p3), .val (.int p4), .val (.int (5 : Int32)), .val (.ref a194), .val (.ref a210), .val (.int (((own_z_f1 p3 p4 k0 k1 k2 k3 k4 o0 o1 o2 o3 o4) + (1 : Int32)) % (5 : Int32))), .val (.int (2 : Int32)), .val (.int (own_z_ct2 p4 o0 o1 o2 o3 o4))]) X394 hx (hb hby own_d3_99) (q := 101) rfl rfl ?_
        exact J2 _ _ _ _ _ _ _ _ _ X394 e395 A399 A400 A398 A401 Z403 K402 N404 (own_fnY c10) (own_ynY c10) (own_ynY c10) (own_ynY c10) (own_ynY c10) (own_ynY c10)
    refine own_if0M X226 hx (hb hby own_d3_82) (cd := .ne) (x := own_z_tk1 p3 p4 k0 k1 k2 k3 k4 o0 o1 o2 o3 o4) (pt := 101) (q := 85) (by decide) (by decide) rfl rfl (fun (c11 : ¬ ((own_z_tk1 p3 p4 k0 k1 k2 k3 k4 o0 o1 o2 o3 o4) = (0 : Int32))) => ?_) (fun (c11 : (own_z_tk1 p3 p4 k0 k1 k2 k3 k4 o0 o1 o2 o3 o4) = (0 : Int32)) => ?_)
    · exact J1 _ _ _ _ _ _ _ _ _ X226 e227 A233 A234 A235 A236 Z230 K232 N229 (own_fnN c11) (own_ynN c11) (own_ynN c11) (own_ynN c11) (own_ynN c11) (own_ynN c11)
    · refine own_aload X226 hx (hb hby own_d3_85) (q := 87) rfl rfl rfl ?_
      refine own_iload X226 hx (hb hby own_d3_87) (q := 89) rfl rfl ?_
      refine own_iload X226 hx (hb hby own_d3_89) (q := 91) rfl rfl ?_
      refine own_iastore X226 hx hZ (i := ((p4 + (1 : Int32)) % (5 : Int32)).toNatClampNeg) e227 A235 (own_nn5 (j := (p4 + (1 : Int32)) % (5 : Int32)) (own_z_rt1 hL)) rfl (own_lt5 (j := (p4 + (1 : Int32)) % (5 : Int32)) (own_z_rt1 hL)) (hb hby own_d3_91) (q := 92) rfl (fun T405 h408 X406 e407 W409 A410 => ?_)
      replace A410 : own_A Z h408 a194 .int [.int (own_z_up ((p4 + (1 : Int32)) % (5 : Int32)) 0 (own_z_ct1 p4 o0 o1 o2 o3 o4) (own_z_y 0 p3 p4 0 k0)), .int (own_z_up ((p4 + (1 : Int32)) % (5 : Int32)) 1 (own_z_ct1 p4 o0 o1 o2 o3 o4) (own_z_y 0 p3 p4 1 k1)), .int (own_z_up ((p4 + (1 : Int32)) % (5 : Int32)) 2 (own_z_ct1 p4 o0 o1 o2 o3 o4) (own_z_y 0 p3 p4 2 k2)), .int (own_z_up ((p4 + (1 : Int32)) % (5 : Int32)) 3 (own_z_ct1 p4 o0 o1 o2 o3 o4) (own_z_y 0 p3 p4 3 k3)), .int (own_z_up ((p4 + (1 : Int32)) % (5 : Int32)) 4 (own_z_ct1 p4 o0 o1 o2 o3 o4) (own_z_y 0 p3 p4 4 k4))] := by rw [own_set5 (j := (p4 + (1 : Int32)) % (5 : Int32)) (own_z_rt1 hL)] at A410; exact A410
      have A411 := A233.other W409 ne202
      have A412 := A234.other W409 ne203
      have A413 := A236.other W409 (Ne.symm ne221)
      have K414 := K232.wr W409 (Or.inr O198)
      have Z415 : n0 ≤ h408.size := W409.size ▸ Z230
      have N416 := Fr.snoc X406 N229 Z204
      refine own_iload X406 hx (hb hby own_d3_92) (q := 94) rfl rfl ?_
      refine own_iconst X406 hx (v := (1 : Int32)) (hb hby own_d3_94) (q := 95) rfl rfl ?_
      refine own_iadd X406 hx (hb hby own_d3_95) (q := 96) rfl ?_
      refine own_iload X406 hx (hb hby own_d3_96) (q := 98) rfl rfl ?_
      refine own_irem X406 hx (hb hby own_d3_98) (q := 99) rfl (by decide) ?_
      refine own_istore (L' := #[.val (.ref a1), .val (.ref a2), .val (.int p3), .val (.int p4), .val (.int (5 : Int32)), .val (.ref a194), .val (.ref a210), .val (.int ((((p4 + (1 : Int32)) % (5 : Int32)) + (1 : Int32)) % (5 : Int32))), .val (.int (1 : Int32)), .val (.int (own_z_ct1 p4 o0 o1 o2 o3 o4))]) X406 hx (hb hby own_d3_99) (q := 101) rfl rfl ?_
      exact J1 _ _ _ _ _ _ _ _ _ X406 e407 A411 A412 A410 A413 Z415 K414 N416 (own_fnY c11) (own_ynY c11) (own_ynY c11) (own_ynY c11) (own_ynY c11) (own_ynY c11)
  refine own_iload X207 hx (hb hby own_d3_19) (q := 21) rfl rfl ?_
  refine own_iloadN X207 hx (hb hby own_d3_21) (q := 22) rfl rfl ?_
  refine own_icmpP X207 hx (hb hby own_d3_22) (cd := .gt) (x := p3) (y := p4) (pt := 48) (q := 25) (by decide) (by decide) rfl rfl (fun h => False.elim (((own_l0 hL) : ¬ (p4 < p3)) h)) (fun _ => ?_)
  refine own_aload X207 hx (hb hby own_d3_25) (q := 27) rfl rfl rfl ?_
  refine own_iload X207 hx (hb hby own_d3_27) (q := 29) rfl rfl ?_
  refine own_aloadN X207 hx (hb hby own_d3_29) (q := 30) rfl rfl rfl ?_
  refine own_iload X207 hx (hb hby own_d3_30) (q := 32) rfl rfl ?_
  refine own_iaload X207 hx hZ (i := (p3).toNatClampNeg) (v := .int (own_kp0 p3 k0 k1 k2 k3 k4)) e208 V215 (own_nn5 (own_pos0 hL (own_l0 hL))) rfl (own_cat5V (own_pos0 hL (own_l0 hL))) (hb hby own_d3_32) (q := 33) rfl ?_
  refine own_iastore X207 hx hZ (i := (p3).toNatClampNeg) e208 A217 (own_nn5 (own_pos0 hL (own_l0 hL))) rfl (own_lt5 (own_pos0 hL (own_l0 hL))) (hb hby own_d3_33) (q := 34) rfl (fun T417 h420 X418 e419 W421 A422 => ?_)
  replace A422 : own_A Z h420 a194 .int [.int (own_w1_0 p3 k0 k1 k2 k3 k4), .int (own_w1_1 p3 k0 k1 k2 k3 k4), .int (own_w1_2 p3 k0 k1 k2 k3 k4), .int (own_w1_3 p3 k0 k1 k2 k3 k4), .int (own_w1_4 p3 k0 k1 k2 k3 k4)] := by rw [own_set5 (own_pos0 hL (own_l0 hL))] at A422; exact A422
  have V423 := V215.other W421 ne202
  have V424 := V216.other W421 ne203
  have A425 := A213.other W421 (Ne.symm ne221)
  have K426 := K218.wr W421 (Or.inr O198)
  have Z427 : n0 ≤ h420.size := W421.size ▸ Z223
  have N428 := Fr.snoc X418 N0 Z204
  refine own_aload X418 hx (hb hby own_d3_34) (q := 36) rfl rfl rfl ?_
  refine own_aloadN X418 hx (hb hby own_d3_36) (q := 37) rfl rfl rfl ?_
  refine own_iload X418 hx (hb hby own_d3_37) (q := 39) rfl rfl ?_
  refine own_iaload X418 hx hZ (i := (p3).toNatClampNeg) (v := .int (own_kp0 p3 k0 k1 k2 k3 k4)) e419 V423 (own_nn5 (own_pos0 hL (own_l0 hL))) rfl (own_cat5V (own_pos0 hL (own_l0 hL))) (hb hby own_d3_39) (q := 40) rfl ?_
  refine own_iconst X418 hx (v := (1 : Int32)) (hb hby own_d3_40) (q := 41) rfl rfl ?_
  refine own_zastore X418 hx hZ (i := (own_kp0 p3 k0 k1 k2 k3 k4).toNatClampNeg) e419 A425 (own_nn5 (own_z_cr hk (own_pos0 hL (own_l0 hL)))) rfl (own_lt5 (own_z_cr hk (own_pos0 hL (own_l0 hL)))) (hb hby own_d3_41) (q := 42) rfl (fun T429 h432 X430 e431 W433 A434 => ?_)
  replace A434 : own_A Z h432 a210 .boolean [.int (own_v1_0 p3 k0 k1 k2 k3 k4), .int (own_v1_1 p3 k0 k1 k2 k3 k4), .int (own_v1_2 p3 k0 k1 k2 k3 k4), .int (own_v1_3 p3 k0 k1 k2 k3 k4), .int (own_v1_4 p3 k0 k1 k2 k3 k4)] := by rw [own_set5 (j := own_kp0 p3 k0 k1 k2 k3 k4) (own_z_cr hk (own_pos0 hL (own_l0 hL)))] at A434; exact A434
  have V435 := V423.other W433 ne219
  have V436 := V424.other W433 ne220
  have A437 := A422.other W433 ne221
  have K438 := K426.wr W433 (Or.inr O214)
  have Z439 : n0 ≤ h432.size := W433.size ▸ Z427
  have N440 := Fr.snoc X430 N428 Z222
  refine own_iinc (L' := #[.val (.ref a1), .val (.ref a2), .val (.int p3), .val (.int p4), .val (.int (5 : Int32)), .val (.ref a194), .val (.ref a210), .val (.int (p3 + (1 : Int32))), .unset, .unset]) X430 hx (v := (1 : Int32)) (hb hby own_d3_42) (q := 45) rfl rfl rfl rfl ?_
  refine own_goto X430 hx (hb hby own_d3_45) (q := 19) (by decide) (by decide) ?_
  refine own_iload X430 hx (hb hby own_d3_19) (q := 21) rfl rfl ?_
  refine own_iloadN X430 hx (hb hby own_d3_21) (q := 22) rfl rfl ?_
  refine own_icmpP X430 hx (hb hby own_d3_22) (cd := .gt) (x := p3 + (1 : Int32)) (y := p4) (pt := 48) (q := 25) (by decide) (by decide) rfl rfl (fun (c13 : p4 < (p3 + (1 : Int32))) => ?_) (fun (c13 : ¬ (p4 < (p3 + (1 : Int32)))) => ?_)
  · obtain ⟨x0, x1, x2, x3, x4, x5, x6, x7, x8, x9⟩ := own_ex1 (k0 := k0) (k1 := k1) (k2 := k2) (k3 := k3) (k4 := k4) hL c13 (own_l0 hL)
    rw [x0, x1, x2, x3, x4] at A437
    rw [x5, x6, x7, x8, x9] at A434
    exact J48 _ _ _ _ X430 e431 V435 V436 A437 A434 Z439 K438 N440 
  · refine own_aload X430 hx (hb hby own_d3_25) (q := 27) rfl rfl rfl ?_
    refine own_iload X430 hx (hb hby own_d3_27) (q := 29) rfl rfl ?_
    refine own_aloadN X430 hx (hb hby own_d3_29) (q := 30) rfl rfl rfl ?_
    refine own_iload X430 hx (hb hby own_d3_30) (q := 32) rfl rfl ?_
    refine own_iaload X430 hx hZ (i := (p3 + (1 : Int32)).toNatClampNeg) (v := .int (own_kp1 p3 k0 k1 k2 k3 k4)) e431 V435 (own_nn5 (own_pos1 hL c13)) rfl (own_cat5V (own_pos1 hL c13)) (hb hby own_d3_32) (q := 33) rfl ?_
    refine own_iastore X430 hx hZ (i := (p3 + (1 : Int32)).toNatClampNeg) e431 A437 (own_nn5 (own_pos1 hL c13)) rfl (own_lt5 (own_pos1 hL c13)) (hb hby own_d3_33) (q := 34) rfl (fun T441 h444 X442 e443 W445 A446 => ?_)
    replace A446 : own_A Z h444 a194 .int [.int (own_w2_0 p3 k0 k1 k2 k3 k4), .int (own_w2_1 p3 k0 k1 k2 k3 k4), .int (own_w2_2 p3 k0 k1 k2 k3 k4), .int (own_w2_3 p3 k0 k1 k2 k3 k4), .int (own_w2_4 p3 k0 k1 k2 k3 k4)] := by rw [own_set5 (own_pos1 hL c13)] at A446; exact A446
    have V447 := V435.other W445 ne202
    have V448 := V436.other W445 ne203
    have A449 := A434.other W445 (Ne.symm ne221)
    have K450 := K438.wr W445 (Or.inr O198)
    have Z451 : n0 ≤ h444.size := W445.size ▸ Z439
    have N452 := Fr.snoc X442 N440 Z204
    refine own_aload X442 hx (hb hby own_d3_34) (q := 36) rfl rfl rfl ?_
    refine own_aloadN X442 hx (hb hby own_d3_36) (q := 37) rfl rfl rfl ?_
    refine own_iload X442 hx (hb hby own_d3_37) (q := 39) rfl rfl ?_
    refine own_iaload X442 hx hZ (i := (p3 + (1 : Int32)).toNatClampNeg) (v := .int (own_kp1 p3 k0 k1 k2 k3 k4)) e443 V447 (own_nn5 (own_pos1 hL c13)) rfl (own_cat5V (own_pos1 hL c13)) (hb hby own_d3_39) (q := 40) rfl ?_
    refine own_iconst X442 hx (v := (1 : Int32)) (hb hby own_d3_40) (q := 41) rfl rfl ?_
    refine own_zastore X442 hx hZ (i := (own_kp1 p3 k0 k1 k2 k3 k4).toNatClampNeg) e443 A449 (own_nn5 (own_z_cr hk (own_pos1 hL c13))) rfl (own_lt5 (own_z_cr hk (own_pos1 hL c13))) (hb hby own_d3_41) (q := 42) rfl (fun T453 h456 X454 e455 W457 A458 => ?_)
    replace A458 : own_A Z h456 a210 .boolean [.int (own_v2_0 p3 k0 k1 k2 k3 k4), .int (own_v2_1 p3 k0 k1 k2 k3 k4), .int (own_v2_2 p3 k0 k1 k2 k3 k4), .int (own_v2_3 p3 k0 k1 k2 k3 k4), .int (own_v2_4 p3 k0 k1 k2 k3 k4)] := by rw [own_set5 (j := own_kp1 p3 k0 k1 k2 k3 k4) (own_z_cr hk (own_pos1 hL c13))] at A458; exact A458
    have V459 := V447.other W457 ne219
    have V460 := V448.other W457 ne220
    have A461 := A446.other W457 ne221
    have K462 := K450.wr W457 (Or.inr O214)
    have Z463 : n0 ≤ h456.size := W457.size ▸ Z451
    have N464 := Fr.snoc X454 N452 Z222
    refine own_iinc (L' := #[.val (.ref a1), .val (.ref a2), .val (.int p3), .val (.int p4), .val (.int (5 : Int32)), .val (.ref a194), .val (.ref a210), .val (.int ((p3 + (1 : Int32)) + (1 : Int32))), .unset, .unset]) X454 hx (v := (1 : Int32)) (hb hby own_d3_42) (q := 45) rfl rfl rfl rfl ?_
    refine own_goto X454 hx (hb hby own_d3_45) (q := 19) (by decide) (by decide) ?_
    refine own_iload X454 hx (hb hby own_d3_19) (q := 21) rfl rfl ?_
    refine own_iloadN X454 hx (hb hby own_d3_21) (q := 22) rfl rfl ?_
    refine own_icmpP X454 hx (hb hby own_d3_22) (cd := .gt) (x := (p3 + (1 : Int32)) + (1 : Int32)) (y := p4) (pt := 48) (q := 25) (by decide) (by decide) rfl rfl (fun (c14 : p4 < ((p3 + (1 : Int32)) + (1 : Int32))) => ?_) (fun (c14 : ¬ (p4 < ((p3 + (1 : Int32)) + (1 : Int32)))) => ?_)
    · obtain ⟨x0, x1, x2, x3, x4, x5, x6, x7, x8, x9⟩ := own_ex2 (k0 := k0) (k1 := k1) (k2 := k2) (k3 := k3) (k4 := k4) hL c14 c13
      rw [x0, x1, x2, x3, x4] at A461
      rw [x5, x6, x7, x8, x9] at A458
      exact J48 _ _ _ _ X454 e455 V459 V460 A461 A458 Z463 K462 N464 
    · refine own_aload X454 hx (hb hby own_d3_25) (q := 27) rfl rfl rfl ?_
      refine own_iload X454 hx (hb hby own_d3_27) (q := 29) rfl rfl ?_
      refine own_aloadN X454 hx (hb hby own_d3_29) (q := 30) rfl rfl rfl ?_
      refine own_iload X454 hx (hb hby own_d3_30) (q := 32) rfl rfl ?_
      refine own_iaload X454 hx hZ (i := ((p3 + (1 : Int32)) + (1 : Int32)).toNatClampNeg) (v := .int (own_kp2 p3 k0 k1 k2 k3 k4)) e455 V459 (own_nn5 (own_pos2 hL c14)) rfl (own_cat5V (own_pos2 hL c14)) (hb hby own_d3_32) (q := 33) rfl ?_
      refine own_iastore X454 hx hZ (i := ((p3 + (1 : Int32)) + (1 : Int32)).toNatClampNeg) e455 A461 (own_nn5 (own_pos2 hL c14)) rfl (own_lt5 (own_pos2 hL c14)) (hb hby own_d3_33) (q := 34) rfl (fun T465 h468 X466 e467 W469 A470 => ?_)
      replace A470 : own_A Z h468 a194 .int [.int (own_w3_0 p3 k0 k1 k2 k3 k4), .int (own_w3_1 p3 k0 k1 k2 k3 k4), .int (own_w3_2 p3 k0 k1 k2 k3 k4), .int (own_w3_3 p3 k0 k1 k2 k3 k4), .int (own_w3_4 p3 k0 k1 k2 k3 k4)] := by rw [own_set5 (own_pos2 hL c14)] at A470; exact A470
      have V471 := V459.other W469 ne202
      have V472 := V460.other W469 ne203
      have A473 := A458.other W469 (Ne.symm ne221)
      have K474 := K462.wr W469 (Or.inr O198)
      have Z475 : n0 ≤ h468.size := W469.size ▸ Z463
      have N476 := Fr.snoc X466 N464 Z204
      refine own_aload X466 hx (hb hby own_d3_34) (q := 36) rfl rfl rfl ?_
      refine own_aloadN X466 hx (hb hby own_d3_36) (q := 37) rfl rfl rfl ?_
      refine own_iload X466 hx (hb hby own_d3_37) (q := 39) rfl rfl ?_
      refine own_iaload X466 hx hZ (i := ((p3 + (1 : Int32)) + (1 : Int32)).toNatClampNeg) (v := .int (own_kp2 p3 k0 k1 k2 k3 k4)) e467 V471 (own_nn5 (own_pos2 hL c14)) rfl (own_cat5V (own_pos2 hL c14)) (hb hby own_d3_39) (q := 40) rfl ?_
      refine own_iconst X466 hx (v := (1 : Int32)) (hb hby own_d3_40) (q := 41) rfl rfl ?_
      refine own_zastore X466 hx hZ (i := (own_kp2 p3 k0 k1 k2 k3 k4).toNatClampNeg) e467 A473 (own_nn5 (own_z_cr hk (own_pos2 hL c14))) rfl (own_lt5 (own_z_cr hk (own_pos2 hL c14))) (hb hby own_d3_41) (q := 42) rfl (fun T477 h480 X478 e479 W481 A482 => ?_)
      replace A482 : own_A Z h480 a210 .boolean [.int (own_v3_0 p3 k0 k1 k2 k3 k4), .int (own_v3_1 p3 k0 k1 k2 k3 k4), .int (own_v3_2 p3 k0 k1 k2 k3 k4), .int (own_v3_3 p3 k0 k1 k2 k3 k4), .int (own_v3_4 p3 k0 k1 k2 k3 k4)] := by rw [own_set5 (j := own_kp2 p3 k0 k1 k2 k3 k4) (own_z_cr hk (own_pos2 hL c14))] at A482; exact A482
      have V483 := V471.other W481 ne219
      have V484 := V472.other W481 ne220
      have A485 := A470.other W481 ne221
      have K486 := K474.wr W481 (Or.inr O214)
      have Z487 : n0 ≤ h480.size := W481.size ▸ Z475
      have N488 := Fr.snoc X478 N476 Z222
      refine own_iinc (L' := #[.val (.ref a1), .val (.ref a2), .val (.int p3), .val (.int p4), .val (.int (5 : Int32)), .val (.ref a194), .val (.ref a210), .val (.int (((p3 + (1 : Int32)) + (1 : Int32)) + (1 : Int32))), .unset, .unset]) X478 hx (v := (1 : Int32)) (hb hby own_d3_42) (q := 45) rfl rfl rfl rfl ?_
      refine own_goto X478 hx (hb hby own_d3_45) (q := 19) (by decide) (by decide) ?_
      refine own_iload X478 hx (hb hby own_d3_19) (q := 21) rfl rfl ?_
      refine own_iloadN X478 hx (hb hby own_d3_21) (q := 22) rfl rfl ?_
      refine own_icmpP X478 hx (hb hby own_d3_22) (cd := .gt) (x := ((p3 + (1 : Int32)) + (1 : Int32)) + (1 : Int32)) (y := p4) (pt := 48) (q := 25) (by decide) (by decide) rfl rfl (fun (c15 : p4 < (((p3 + (1 : Int32)) + (1 : Int32)) + (1 : Int32))) => ?_) (fun (c15 : ¬ (p4 < (((p3 + (1 : Int32)) + (1 : Int32)) + (1 : Int32)))) => ?_)
      · obtain ⟨x0, x1, x2, x3, x4, x5, x6, x7, x8, x9⟩ := own_ex3 (k0 := k0) (k1 := k1) (k2 := k2) (k3 := k3) (k4 := k4) hL c15 c14
        rw [x0, x1, x2, x3, x4] at A485
        rw [x5, x6, x7, x8, x9] at A482
        exact J48 _ _ _ _ X478 e479 V483 V484 A485 A482 Z487 K486 N488 
      · refine own_aload X478 hx (hb hby own_d3_25) (q := 27) rfl rfl rfl ?_
        refine own_iload X478 hx (hb hby own_d3_27) (q := 29) rfl rfl ?_
        refine own_aloadN X478 hx (hb hby own_d3_29) (q := 30) rfl rfl rfl ?_
        refine own_iload X478 hx (hb hby own_d3_30) (q := 32) rfl rfl ?_
        refine own_iaload X478 hx hZ (i := (((p3 + (1 : Int32)) + (1 : Int32)) + (1 : Int32)).toNatClampNeg) (v := .int (own_kp3 p3 k0 k1 k2 k3 k4)) e479 V483 (own_nn5 (own_pos3 hL c15)) rfl (own_cat5V (own_pos3 hL c15)) (hb hby own_d3_32) (q := 33) rfl ?_
        refine own_iastore X478 hx hZ (i := (((p3 + (1 : Int32)) + (1 : Int32)) + (1 : Int32)).toNatClampNeg) e479 A485 (own_nn5 (own_pos3 hL c15)) rfl (own_lt5 (own_pos3 hL c15)) (hb hby own_d3_33) (q := 34) rfl (fun T489 h492 X490 e491 W493 A494 => ?_)
        replace A494 : own_A Z h492 a194 .int [.int (own_w4_0 p3 k0 k1 k2 k3 k4), .int (own_w4_1 p3 k0 k1 k2 k3 k4), .int (own_w4_2 p3 k0 k1 k2 k3 k4), .int (own_w4_3 p3 k0 k1 k2 k3 k4), .int (own_w4_4 p3 k0 k1 k2 k3 k4)] := by rw [own_set5 (own_pos3 hL c15)] at A494; exact A494
        have V495 := V483.other W493 ne202
        have V496 := V484.other W493 ne203
        have A497 := A482.other W493 (Ne.symm ne221)
        have K498 := K486.wr W493 (Or.inr O198)
        have Z499 : n0 ≤ h492.size := W493.size ▸ Z487
        have N500 := Fr.snoc X490 N488 Z204
        refine own_aload X490 hx (hb hby own_d3_34) (q := 36) rfl rfl rfl ?_
        refine own_aloadN X490 hx (hb hby own_d3_36) (q := 37) rfl rfl rfl ?_
        refine own_iload X490 hx (hb hby own_d3_37) (q := 39) rfl rfl ?_
        refine own_iaload X490 hx hZ (i := (((p3 + (1 : Int32)) + (1 : Int32)) + (1 : Int32)).toNatClampNeg) (v := .int (own_kp3 p3 k0 k1 k2 k3 k4)) e491 V495 (own_nn5 (own_pos3 hL c15)) rfl (own_cat5V (own_pos3 hL c15)) (hb hby own_d3_39) (q := 40) rfl ?_
        refine own_iconst X490 hx (v := (1 : Int32)) (hb hby own_d3_40) (q := 41) rfl rfl ?_
        refine own_zastore X490 hx hZ (i := (own_kp3 p3 k0 k1 k2 k3 k4).toNatClampNeg) e491 A497 (own_nn5 (own_z_cr hk (own_pos3 hL c15))) rfl (own_lt5 (own_z_cr hk (own_pos3 hL c15))) (hb hby own_d3_41) (q := 42) rfl (fun T501 h504 X502 e503 W505 A506 => ?_)
        replace A506 : own_A Z h504 a210 .boolean [.int (own_v4_0 p3 k0 k1 k2 k3 k4), .int (own_v4_1 p3 k0 k1 k2 k3 k4), .int (own_v4_2 p3 k0 k1 k2 k3 k4), .int (own_v4_3 p3 k0 k1 k2 k3 k4), .int (own_v4_4 p3 k0 k1 k2 k3 k4)] := by rw [own_set5 (j := own_kp3 p3 k0 k1 k2 k3 k4) (own_z_cr hk (own_pos3 hL c15))] at A506; exact A506
        have V507 := V495.other W505 ne219
        have V508 := V496.other W505 ne220
        have A509 := A494.other W505 ne221
        have K510 := K498.wr W505 (Or.inr O214)
        have Z511 : n0 ≤ h504.size := W505.size ▸ Z499
        have N512 := Fr.snoc X502 N500 Z222
        refine own_iinc (L' := #[.val (.ref a1), .val (.ref a2), .val (.int p3), .val (.int p4), .val (.int (5 : Int32)), .val (.ref a194), .val (.ref a210), .val (.int ((((p3 + (1 : Int32)) + (1 : Int32)) + (1 : Int32)) + (1 : Int32))), .unset, .unset]) X502 hx (v := (1 : Int32)) (hb hby own_d3_42) (q := 45) rfl rfl rfl rfl ?_
        refine own_goto X502 hx (hb hby own_d3_45) (q := 19) (by decide) (by decide) ?_
        refine own_iload X502 hx (hb hby own_d3_19) (q := 21) rfl rfl ?_
        refine own_iloadN X502 hx (hb hby own_d3_21) (q := 22) rfl rfl ?_
        refine own_icmpP X502 hx (hb hby own_d3_22) (cd := .gt) (x := (((p3 + (1 : Int32)) + (1 : Int32)) + (1 : Int32)) + (1 : Int32)) (y := p4) (pt := 48) (q := 25) (by decide) (by decide) rfl rfl (fun (c16 : p4 < ((((p3 + (1 : Int32)) + (1 : Int32)) + (1 : Int32)) + (1 : Int32))) => ?_) (fun (c16 : ¬ (p4 < ((((p3 + (1 : Int32)) + (1 : Int32)) + (1 : Int32)) + (1 : Int32)))) => ?_)
        · obtain ⟨x0, x1, x2, x3, x4, x5, x6, x7, x8, x9⟩ := own_ex4 (k0 := k0) (k1 := k1) (k2 := k2) (k3 := k3) (k4 := k4) hL c16 c15
          rw [x0, x1, x2, x3, x4] at A509
          rw [x5, x6, x7, x8, x9] at A506
          exact J48 _ _ _ _ X502 e503 V507 V508 A509 A506 Z511 K510 N512 
        · refine own_aload X502 hx (hb hby own_d3_25) (q := 27) rfl rfl rfl ?_
          refine own_iload X502 hx (hb hby own_d3_27) (q := 29) rfl rfl ?_
          refine own_aloadN X502 hx (hb hby own_d3_29) (q := 30) rfl rfl rfl ?_
          refine own_iload X502 hx (hb hby own_d3_30) (q := 32) rfl rfl ?_
          refine own_iaload X502 hx hZ (i := ((((p3 + (1 : Int32)) + (1 : Int32)) + (1 : Int32)) + (1 : Int32)).toNatClampNeg) (v := .int (own_kp4 p3 k0 k1 k2 k3 k4)) e503 V507 (own_nn5 (own_pos4 hL c16)) rfl (own_cat5V (own_pos4 hL c16)) (hb hby own_d3_32) (q := 33) rfl ?_
          refine own_iastore X502 hx hZ (i := ((((p3 + (1 : Int32)) + (1 : Int32)) + (1 : Int32)) + (1 : Int32)).toNatClampNeg) e503 A509 (own_nn5 (own_pos4 hL c16)) rfl (own_lt5 (own_pos4 hL c16)) (hb hby own_d3_33) (q := 34) rfl (fun T513 h516 X514 e515 W517 A518 => ?_)
          replace A518 : own_A Z h516 a194 .int [.int (own_w5_0 p3 k0 k1 k2 k3 k4), .int (own_w5_1 p3 k0 k1 k2 k3 k4), .int (own_w5_2 p3 k0 k1 k2 k3 k4), .int (own_w5_3 p3 k0 k1 k2 k3 k4), .int (own_w5_4 p3 k0 k1 k2 k3 k4)] := by rw [own_set5 (own_pos4 hL c16)] at A518; exact A518
          have V519 := V507.other W517 ne202
          have V520 := V508.other W517 ne203
          have A521 := A506.other W517 (Ne.symm ne221)
          have K522 := K510.wr W517 (Or.inr O198)
          have Z523 : n0 ≤ h516.size := W517.size ▸ Z511
          have N524 := Fr.snoc X514 N512 Z204
          refine own_aload X514 hx (hb hby own_d3_34) (q := 36) rfl rfl rfl ?_
          refine own_aloadN X514 hx (hb hby own_d3_36) (q := 37) rfl rfl rfl ?_
          refine own_iload X514 hx (hb hby own_d3_37) (q := 39) rfl rfl ?_
          refine own_iaload X514 hx hZ (i := ((((p3 + (1 : Int32)) + (1 : Int32)) + (1 : Int32)) + (1 : Int32)).toNatClampNeg) (v := .int (own_kp4 p3 k0 k1 k2 k3 k4)) e515 V519 (own_nn5 (own_pos4 hL c16)) rfl (own_cat5V (own_pos4 hL c16)) (hb hby own_d3_39) (q := 40) rfl ?_
          refine own_iconst X514 hx (v := (1 : Int32)) (hb hby own_d3_40) (q := 41) rfl rfl ?_
          refine own_zastore X514 hx hZ (i := (own_kp4 p3 k0 k1 k2 k3 k4).toNatClampNeg) e515 A521 (own_nn5 (own_z_cr hk (own_pos4 hL c16))) rfl (own_lt5 (own_z_cr hk (own_pos4 hL c16))) (hb hby own_d3_41) (q := 42) rfl (fun T525 h528 X526 e527 W529 A530 => ?_)
          replace A530 : own_A Z h528 a210 .boolean [.int (own_v5_0 p3 k0 k1 k2 k3 k4), .int (own_v5_1 p3 k0 k1 k2 k3 k4), .int (own_v5_2 p3 k0 k1 k2 k3 k4), .int (own_v5_3 p3 k0 k1 k2 k3 k4), .int (own_v5_4 p3 k0 k1 k2 k3 k4)] := by rw [own_set5 (j := own_kp4 p3 k0 k1 k2 k3 k4) (own_z_cr hk (own_pos4 hL c16))] at A530; exact A530
          have V531 := V519.other W529 ne219
          have V532 := V520.other W529 ne220
          have A533 := A518.other W529 ne221
          have K534 := K522.wr W529 (Or.inr O214)
          have Z535 : n0 ≤ h528.size := W529.size ▸ Z523
          have N536 := Fr.snoc X526 N524 Z222
          refine own_iinc (L' := #[.val (.ref a1), .val (.ref a2), .val (.int p3), .val (.int p4), .val (.int (5 : Int32)), .val (.ref a194), .val (.ref a210), .val (.int (((((p3 + (1 : Int32)) + (1 : Int32)) + (1 : Int32)) + (1 : Int32)) + (1 : Int32))), .unset, .unset]) X526 hx (v := (1 : Int32)) (hb hby own_d3_42) (q := 45) rfl rfl rfl rfl ?_
          refine own_goto X526 hx (hb hby own_d3_45) (q := 19) (by decide) (by decide) ?_
          refine own_iload X526 hx (hb hby own_d3_19) (q := 21) rfl rfl ?_
          refine own_iloadN X526 hx (hb hby own_d3_21) (q := 22) rfl rfl ?_
          refine own_icmpP X526 hx (hb hby own_d3_22) (cd := .gt) (x := ((((p3 + (1 : Int32)) + (1 : Int32)) + (1 : Int32)) + (1 : Int32)) + (1 : Int32)) (y := p4) (pt := 48) (q := 25) (by decide) (by decide) rfl rfl (fun _ => ?_) (fun h => False.elim (h ((own_l5 hL) : p4 < (((((p3 + (1 : Int32)) + (1 : Int32)) + (1 : Int32)) + (1 : Int32)) + (1 : Int32)))))
          obtain ⟨x0, x1, x2, x3, x4, x5, x6, x7, x8, x9⟩ := own_ex5 (k0 := k0) (k1 := k1) (k2 := k2) (k3 := k3) (k4 := k4) hL (own_l5 hL) c16
          rw [x0, x1, x2, x3, x4] at A533
          rw [x5, x6, x7, x8, x9] at A530
          exact J48 _ _ _ _ X526 e527 V531 V532 A533 A530 Z535 K534 N536 
theorem own_ef5 (m : MethodId) (p1 : Int32) : entryFrame m #[.int p1] 1 = mkF m 0 #[.val (.int p1)] [] := by first | (simp [entryFrame, mkF, argsToLocals, Value.category]; done) | rfl
theorem own_d5_0 : decode method_5_code 0 = .ok (.iload_n 0, 1) := by decide +kernel
theorem own_d5_1 : decode method_5_code 1 = .ok (.ifCond .lt 12, 3) := by decide +kernel
theorem own_d5_4 : decode method_5_code 4 = .ok (.iload_n 0, 1) := by decide +kernel
theorem own_d5_5 : decode method_5_code 5 = .ok (.iconst 4, 1) := by decide +kernel
theorem own_d5_6 : decode method_5_code 6 = .ok (.if_icmp .gt 7, 3) := by decide +kernel
theorem own_d5_9 : decode method_5_code 9 = .ok (.iconst 1, 1) := by decide +kernel
theorem own_d5_10 : decode method_5_code 10 = .ok (.goto 4, 3) := by decide +kernel
theorem own_d5_13 : decode method_5_code 13 = .ok (.iconst 0, 1) := by decide +kernel
theorem own_d5_14 : decode method_5_code 14 = .ok (.ireturn, 1) := by decide +kernel
def own_f5 (p1 : Int32) : Int32 := (if p1 < (0 : Int32) then (0 : Int32) else (if (4 : Int32) < p1 then (0 : Int32) else (1 : Int32)))
set_option maxRecDepth 65536 in
set_option maxHeartbeats 40000000 in
theorem rm5 (l : Launch) (Z : State) (a0 : Array Value) (hw : ∀ d ∈ tables_1, d.before a0 Z = true) (ws : List Jvm.Cond) (p1 : Int32) (h0 : Heap) :
    MetFree l (⟨"com/example/tourloom/tourloom/GeneticOperatorsOrderCrossoverPinLaw", "inRange", "(I)Z"⟩ : MethodName) (head1 (Jvm.Cond.code (⟨"com/example/tourloom/tourloom/GeneticOperatorsOrderCrossoverPinLaw", "inRange", "(I)Z"⟩ : MethodName) method_5_code 1 (some .boolean) :: ws) ({ frames := 0, cells := 0, slots := 0, locals := 0 } : Room)) (fun a U => a = #[.int p1] ∧ Z.Warmed39 U.vm ∧ U.heap = h0) (fun _ _ _ _ _ => True) (fun _ U o U' => ∃ v L, o = .returned v ∧ own_P (.int (own_f5 p1)) h0 v U'.heap L ∧ FrameEnd U o U' L ({ frames := 0, cells := 0, slots := 0, locals := 0 } : Room).cells ({ frames := 0, cells := 0, slots := 0, locals := 0 } : Room).slots) := by
  refine MetFree.of_bodySF (plainFor_of_name own_pn0) hisR ?_
  intro p e s m args below meth c s₁ Bd hml0 hP hK
  obtain ⟨rfl, hZ, hh⟩ := hP
  have hx := Bd.exec
  have hby := Bd.bytes
  have hml : c.maxLocals = 1 := hml0
  have hown : s.vm.findClass "com/example/tourloom/tourloom/GeneticOperatorsOrderCrossoverPinLaw" = some m.cls := findClass_of_methodNamed Bd.named
  have hnm := (name_of_methodNamed Bd.named Bd.method).1
  have hlk : meth.locks = false := BodyLoose.notSynchronized Bd
  have X0 : Stand p l e ({ frames := 0, cells := 0, slots := 0, locals := 0 } : Room) s m #[.int p1] below meth c s₁ [] 0 0 := Stand.of_body Bd
  have e0 : s₁.heap = h0 := by rw [← hh, Bd.state]; rfl
  show own_Go p e below (own_E s 0 0 (own_P (.int (own_f5 p1)) h0)) (s₁.setTop (entryFrame m #[.int p1] 1))
  rw [own_ef5]
  refine own_iloadN X0 hx (hb hby own_d5_0) (q := 1) rfl rfl ?_
  refine own_if0P X0 hx (hb hby own_d5_1) (cd := .lt) (x := p1) (pt := 13) (q := 4) (by decide) (by decide) rfl rfl (fun (c1 : p1 < (0 : Int32)) => ?_) (fun (c1 : ¬ (p1 < (0 : Int32))) => ?_)
  · refine own_iconst X0 hx (v := (0 : Int32)) (hb hby own_d5_13) (q := 14) rfl rfl ?_
    refine own_retN X0 hx hlk (t := .boolean) (by simp) Bd.returns (hb hby own_d5_14) ?_ (by decide) (by decide)
    have r : own_f5 p1 = (0 : Int32) := by rw [own_f5, if_pos c1]
    exact ⟨by rw [r] <;> rfl, e0, rfl⟩
  · refine own_iloadN X0 hx (hb hby own_d5_4) (q := 5) rfl rfl ?_
    refine own_iconst X0 hx (v := (4 : Int32)) (hb hby own_d5_5) (q := 6) rfl rfl ?_
    refine own_icmpP X0 hx (hb hby own_d5_6) (cd := .gt) (x := p1) (y := (4 : Int32)) (pt := 13) (q := 9) (by decide) (by decide) rfl rfl (fun (c2 : (4 : Int32) < p1) => ?_) (fun (c2 : ¬ ((4 : Int32) < p1)) => ?_)
    · refine own_iconst X0 hx (v := (0 : Int32)) (hb hby own_d5_13) (q := 14) rfl rfl ?_
      refine own_retN X0 hx hlk (t := .boolean) (by simp) Bd.returns (hb hby own_d5_14) ?_ (by decide) (by decide)
      have r : own_f5 p1 = (0 : Int32) := by rw [own_f5, if_neg c1, if_pos c2]
      exact ⟨by rw [r] <;> rfl, e0, rfl⟩
    · refine own_iconst X0 hx (v := (1 : Int32)) (hb hby own_d5_9) (q := 10) rfl rfl ?_
      refine own_goto X0 hx (hb hby own_d5_10) (q := 14) (by decide) (by decide) ?_
      refine own_retN X0 hx hlk (t := .boolean) (by simp) Bd.returns (hb hby own_d5_14) ?_ (by decide) (by decide)
      have r : own_f5 p1 = (1 : Int32) := by rw [own_f5, if_neg c1, if_neg c2]
      exact ⟨by rw [r] <;> rfl, e0, rfl⟩
theorem own_ir {x : Int32} (h : own_z_r5 x) : ¬ own_f5 x = 0 := by rcases h with rfl | rfl | rfl | rfl | rfl <;> decide
set_option maxRecDepth 100000 in
set_option maxHeartbeats 4000000 in
theorem own_seen0 {u0 u1 u2 u3 u4 : Int32} (h : own_z_P u0 u1 u2 u3 u4) : ¬ (own_z_up u4 0 1 (own_z_up u3 0 1 (own_z_up u2 0 1 (own_z_up u1 0 1 (own_z_up u0 0 1 0))))) = 0 := own_z_pind (fun u0 u1 u2 u3 u4 => ¬ (own_z_up u4 0 1 (own_z_up u3 0 1 (own_z_up u2 0 1 (own_z_up u1 0 1 (own_z_up u0 0 1 0))))) = 0) (by decide +kernel) h
set_option maxRecDepth 100000 in
set_option maxHeartbeats 4000000 in
theorem own_seen1 {u0 u1 u2 u3 u4 : Int32} (h : own_z_P u0 u1 u2 u3 u4) : ¬ (own_z_up u4 1 1 (own_z_up u3 1 1 (own_z_up u2 1 1 (own_z_up u1 1 1 (own_z_up u0 1 1 0))))) = 0 := own_z_pind (fun u0 u1 u2 u3 u4 => ¬ (own_z_up u4 1 1 (own_z_up u3 1 1 (own_z_up u2 1 1 (own_z_up u1 1 1 (own_z_up u0 1 1 0))))) = 0) (by decide +kernel) h
set_option maxRecDepth 100000 in
set_option maxHeartbeats 4000000 in
theorem own_seen2 {u0 u1 u2 u3 u4 : Int32} (h : own_z_P u0 u1 u2 u3 u4) : ¬ (own_z_up u4 2 1 (own_z_up u3 2 1 (own_z_up u2 2 1 (own_z_up u1 2 1 (own_z_up u0 2 1 0))))) = 0 := own_z_pind (fun u0 u1 u2 u3 u4 => ¬ (own_z_up u4 2 1 (own_z_up u3 2 1 (own_z_up u2 2 1 (own_z_up u1 2 1 (own_z_up u0 2 1 0))))) = 0) (by decide +kernel) h
set_option maxRecDepth 100000 in
set_option maxHeartbeats 4000000 in
theorem own_seen3 {u0 u1 u2 u3 u4 : Int32} (h : own_z_P u0 u1 u2 u3 u4) : ¬ (own_z_up u4 3 1 (own_z_up u3 3 1 (own_z_up u2 3 1 (own_z_up u1 3 1 (own_z_up u0 3 1 0))))) = 0 := own_z_pind (fun u0 u1 u2 u3 u4 => ¬ (own_z_up u4 3 1 (own_z_up u3 3 1 (own_z_up u2 3 1 (own_z_up u1 3 1 (own_z_up u0 3 1 0))))) = 0) (by decide +kernel) h
set_option maxRecDepth 100000 in
set_option maxHeartbeats 4000000 in
theorem own_seen4 {u0 u1 u2 u3 u4 : Int32} (h : own_z_P u0 u1 u2 u3 u4) : ¬ (own_z_up u4 4 1 (own_z_up u3 4 1 (own_z_up u2 4 1 (own_z_up u1 4 1 (own_z_up u0 4 1 0))))) = 0 := own_z_pind (fun u0 u1 u2 u3 u4 => ¬ (own_z_up u4 4 1 (own_z_up u3 4 1 (own_z_up u2 4 1 (own_z_up u1 4 1 (own_z_up u0 4 1 0))))) = 0) (by decide +kernel) h
theorem own_pd1 : parseMethodDescriptor "(I)Z" = some ⟨[.int], some .boolean⟩ := by decide +kernel
theorem own_ef4 (m : MethodId) (a1 : Addr) : entryFrame m #[.ref a1] 2 = mkF m 0 #[.val (.ref a1), .unset] [] := by first | (simp [entryFrame, mkF, argsToLocals, Value.category]; done) | rfl
theorem own_d4_0 : decode method_6_code 0 = .ok (.aload_n 0, 1) := by decide +kernel
theorem own_d4_1 : decode method_6_code 1 = .ok (.iconst 0, 1) := by decide +kernel
theorem own_d4_2 : decode method_6_code 2 = .ok (.iaload, 1) := by decide +kernel
theorem own_d4_3 : decode method_6_code 3 = .ok (.invokestatic 35, 3) := by decide +kernel
theorem own_d4_6 : decode method_6_code 6 = .ok (.ifCond .eq 39, 3) := by decide +kernel
theorem own_d4_9 : decode method_6_code 9 = .ok (.aload_n 0, 1) := by decide +kernel
theorem own_d4_10 : decode method_6_code 10 = .ok (.iconst 1, 1) := by decide +kernel
theorem own_d4_11 : decode method_6_code 11 = .ok (.iaload, 1) := by decide +kernel
theorem own_d4_12 : decode method_6_code 12 = .ok (.invokestatic 35, 3) := by decide +kernel
theorem own_d4_15 : decode method_6_code 15 = .ok (.ifCond .eq 30, 3) := by decide +kernel
theorem own_d4_18 : decode method_6_code 18 = .ok (.aload_n 0, 1) := by decide +kernel
theorem own_d4_19 : decode method_6_code 19 = .ok (.iconst 2, 1) := by decide +kernel
theorem own_d4_20 : decode method_6_code 20 = .ok (.iaload, 1) := by decide +kernel
theorem own_d4_21 : decode method_6_code 21 = .ok (.invokestatic 35, 3) := by decide +kernel
theorem own_d4_24 : decode method_6_code 24 = .ok (.ifCond .eq 21, 3) := by decide +kernel
theorem own_d4_27 : decode method_6_code 27 = .ok (.aload_n 0, 1) := by decide +kernel
theorem own_d4_28 : decode method_6_code 28 = .ok (.iconst 3, 1) := by decide +kernel
theorem own_d4_29 : decode method_6_code 29 = .ok (.iaload, 1) := by decide +kernel
theorem own_d4_30 : decode method_6_code 30 = .ok (.invokestatic 35, 3) := by decide +kernel
theorem own_d4_33 : decode method_6_code 33 = .ok (.ifCond .eq 12, 3) := by decide +kernel
theorem own_d4_36 : decode method_6_code 36 = .ok (.aload_n 0, 1) := by decide +kernel
theorem own_d4_37 : decode method_6_code 37 = .ok (.iconst 4, 1) := by decide +kernel
theorem own_d4_38 : decode method_6_code 38 = .ok (.iaload, 1) := by decide +kernel
theorem own_d4_39 : decode method_6_code 39 = .ok (.invokestatic 35, 3) := by decide +kernel
theorem own_d4_42 : decode method_6_code 42 = .ok (.ifCond .ne 5, 3) := by decide +kernel
theorem own_d4_47 : decode method_6_code 47 = .ok (.iconst 5, 1) := by decide +kernel
theorem own_d4_48 : decode method_6_code 48 = .ok (.newarray .boolean, 2) := by decide +kernel
theorem own_d4_50 : decode method_6_code 50 = .ok (.astore_n 1, 1) := by decide +kernel
theorem own_d4_51 : decode method_6_code 51 = .ok (.aload_n 1, 1) := by decide +kernel
theorem own_d4_52 : decode method_6_code 52 = .ok (.aload_n 0, 1) := by decide +kernel
theorem own_d4_53 : decode method_6_code 53 = .ok (.iconst 0, 1) := by decide +kernel
theorem own_d4_54 : decode method_6_code 54 = .ok (.iaload, 1) := by decide +kernel
theorem own_d4_55 : decode method_6_code 55 = .ok (.iconst 1, 1) := by decide +kernel
theorem own_d4_56 : decode method_6_code 56 = .ok (.bastore, 1) := by decide +kernel
theorem own_d4_57 : decode method_6_code 57 = .ok (.aload_n 1, 1) := by decide +kernel
theorem own_d4_58 : decode method_6_code 58 = .ok (.aload_n 0, 1) := by decide +kernel
theorem own_d4_59 : decode method_6_code 59 = .ok (.iconst 1, 1) := by decide +kernel
theorem own_d4_60 : decode method_6_code 60 = .ok (.iaload, 1) := by decide +kernel
theorem own_d4_61 : decode method_6_code 61 = .ok (.iconst 1, 1) := by decide +kernel
theorem own_d4_62 : decode method_6_code 62 = .ok (.bastore, 1) := by decide +kernel
theorem own_d4_63 : decode method_6_code 63 = .ok (.aload_n 1, 1) := by decide +kernel
theorem own_d4_64 : decode method_6_code 64 = .ok (.aload_n 0, 1) := by decide +kernel
theorem own_d4_65 : decode method_6_code 65 = .ok (.iconst 2, 1) := by decide +kernel
theorem own_d4_66 : decode method_6_code 66 = .ok (.iaload, 1) := by decide +kernel
theorem own_d4_67 : decode method_6_code 67 = .ok (.iconst 1, 1) := by decide +kernel
theorem own_d4_68 : decode method_6_code 68 = .ok (.bastore, 1) := by decide +kernel
theorem own_d4_69 : decode method_6_code 69 = .ok (.aload_n 1, 1) := by decide +kernel
theorem own_d4_70 : decode method_6_code 70 = .ok (.aload_n 0, 1) := by decide +kernel
theorem own_d4_71 : decode method_6_code 71 = .ok (.iconst 3, 1) := by decide +kernel
theorem own_d4_72 : decode method_6_code 72 = .ok (.iaload, 1) := by decide +kernel
theorem own_d4_73 : decode method_6_code 73 = .ok (.iconst 1, 1) := by decide +kernel
theorem own_d4_74 : decode method_6_code 74 = .ok (.bastore, 1) := by decide +kernel
theorem own_d4_75 : decode method_6_code 75 = .ok (.aload_n 1, 1) := by decide +kernel
theorem own_d4_76 : decode method_6_code 76 = .ok (.aload_n 0, 1) := by decide +kernel
theorem own_d4_77 : decode method_6_code 77 = .ok (.iconst 4, 1) := by decide +kernel
theorem own_d4_78 : decode method_6_code 78 = .ok (.iaload, 1) := by decide +kernel
theorem own_d4_79 : decode method_6_code 79 = .ok (.iconst 1, 1) := by decide +kernel
theorem own_d4_80 : decode method_6_code 80 = .ok (.bastore, 1) := by decide +kernel
theorem own_d4_81 : decode method_6_code 81 = .ok (.aload_n 1, 1) := by decide +kernel
theorem own_d4_82 : decode method_6_code 82 = .ok (.iconst 0, 1) := by decide +kernel
theorem own_d4_83 : decode method_6_code 83 = .ok (.baload, 1) := by decide +kernel
theorem own_d4_84 : decode method_6_code 84 = .ok (.ifCond .eq 31, 3) := by decide +kernel
theorem own_d4_87 : decode method_6_code 87 = .ok (.aload_n 1, 1) := by decide +kernel
theorem own_d4_88 : decode method_6_code 88 = .ok (.iconst 1, 1) := by decide +kernel
theorem own_d4_89 : decode method_6_code 89 = .ok (.baload, 1) := by decide +kernel
theorem own_d4_90 : decode method_6_code 90 = .ok (.ifCond .eq 25, 3) := by decide +kernel
theorem own_d4_93 : decode method_6_code 93 = .ok (.aload_n 1, 1) := by decide +kernel
theorem own_d4_94 : decode method_6_code 94 = .ok (.iconst 2, 1) := by decide +kernel
theorem own_d4_95 : decode method_6_code 95 = .ok (.baload, 1) := by decide +kernel
theorem own_d4_96 : decode method_6_code 96 = .ok (.ifCond .eq 19, 3) := by decide +kernel
theorem own_d4_99 : decode method_6_code 99 = .ok (.aload_n 1, 1) := by decide +kernel
theorem own_d4_100 : decode method_6_code 100 = .ok (.iconst 3, 1) := by decide +kernel
theorem own_d4_101 : decode method_6_code 101 = .ok (.baload, 1) := by decide +kernel
theorem own_d4_102 : decode method_6_code 102 = .ok (.ifCond .eq 13, 3) := by decide +kernel
theorem own_d4_105 : decode method_6_code 105 = .ok (.aload_n 1, 1) := by decide +kernel
theorem own_d4_106 : decode method_6_code 106 = .ok (.iconst 4, 1) := by decide +kernel
theorem own_d4_107 : decode method_6_code 107 = .ok (.baload, 1) := by decide +kernel
theorem own_d4_108 : decode method_6_code 108 = .ok (.ifCond .eq 7, 3) := by decide +kernel
theorem own_d4_111 : decode method_6_code 111 = .ok (.iconst 1, 1) := by decide +kernel
theorem own_d4_112 : decode method_6_code 112 = .ok (.goto 4, 3) := by decide +kernel
theorem own_d4_116 : decode method_6_code 116 = .ok (.ireturn, 1) := by decide +kernel
def own_f4 (a1 : Addr) (u0 : Int32) (u1 : Int32) (u2 : Int32) (u3 : Int32) (u4 : Int32) : Int32 := (1 : Int32)
def own_Q4 (Z : State) (a1 : Addr) (u0 : Int32) (u1 : Int32) (u2 : Int32) (u3 : Int32) (u4 : Int32) (h0 : Heap) (n0 : Nat) (v : Option Value) (h : Heap) (L : List Loc) : Prop := v = some (.int (own_f4 a1 u0 u1 u2 u3 u4)) ∧ Fr n0 L ∧ Keep h0 h [] ∧ own_A Z h a1 .int [.int u0, .int u1, .int u2, .int u3, .int u4]
set_option maxRecDepth 65536 in
set_option maxHeartbeats 40000000 in
theorem rm4 (l : Launch) (Z : State) (a0 : Array Value) (hw : ∀ d ∈ tables_1, d.before a0 Z = true) (ws : List Jvm.Cond) (a1 : Addr) (u0 : Int32) (u1 : Int32) (u2 : Int32) (u3 : Int32) (u4 : Int32) (h0 : Heap) (n0 : Nat) (Z0 : n0 ≤ h0.size) (V0p : own_A Z h0 a1 .int [.int u0, .int u1, .int u2, .int u3, .int u4]) (hP : own_z_P u0 u1 u2 u3 u4) :
    MetFree l (⟨"com/example/tourloom/tourloom/GeneticOperatorsOrderCrossoverPinLaw", "isPerm", "([I)Z"⟩ : MethodName) (head1 (Jvm.Cond.code (⟨"com/example/tourloom/tourloom/GeneticOperatorsOrderCrossoverPinLaw", "isPerm", "([I)Z"⟩ : MethodName) method_6_code 2 (some .boolean) :: ws) ({ frames := 1, cells := 1, slots := 5, locals := 12 } : Room)) (fun a U => a = #[.ref a1] ∧ Z.Warmed39 U.vm ∧ U.heap = h0) (fun _ _ _ _ _ => True) (fun _ U o U' => ∃ v L, o = .returned v ∧ own_Q4 Z a1 u0 u1 u2 u3 u4 h0 n0 v U'.heap L ∧ FrameEnd U o U' L ({ frames := 1, cells := 1, slots := 5, locals := 12 } : Room).cells ({ frames := 1, cells := 1, slots := 5, locals := 12 } : Room).slots) := by
  refine MetFree.of_bodySF (plainFor_of_name own_pn0) hisR ?_
  intro p e s m args below meth c s₁ Bd hml0 hP hK
  obtain ⟨rfl, hZ, hh⟩ := hP
  have hx := Bd.exec
  have hby := Bd.bytes
  have hml : c.maxLocals = 2 := hml0
  have hown : s.vm.findClass "com/example/tourloom/tourloom/GeneticOperatorsOrderCrossoverPinLaw" = some m.cls := findClass_of_methodNamed Bd.named
  have hnm := (name_of_methodNamed Bd.named Bd.method).1
  have hlk : meth.locks = false := BodyLoose.notSynchronized Bd
  have X0 : Stand p l e ({ frames := 1, cells := 1, slots := 5, locals := 12 } : Room) s m #[.ref a1] below meth c s₁ [] 0 0 := Stand.of_body Bd
  have e0 : s₁.heap = h0 := by rw [← hh, Bd.state]; rfl
  have N0 := Fr.nil n0
  have K0 := Keep.refl h0 []
  show own_Go p e below (own_E s 1 5 (own_Q4 Z a1 u0 u1 u2 u3 u4 h0 n0)) (s₁.setTop (entryFrame m #[.ref a1] 2))
  rw [own_ef4]
  refine own_aloadN X0 hx (hb hby own_d4_0) (q := 1) rfl rfl rfl ?_
  refine own_iconst X0 hx (v := (0 : Int32)) (hb hby own_d4_1) (q := 2) rfl rfl ?_
  refine own_iaload X0 hx hZ (i := 0) (v := .int u0) e0 V0p (by decide) (by decide) rfl (hb hby own_d4_2) (q := 3) rfl ?_
  refine own_callSP X0 hx hZ hown (hw _ (List.mem_of_getElem? (i := 17) rfl)) (hw _ (List.mem_of_getElem? (i := 18) rfl)) (hw _ (List.mem_of_getElem? (i := 2) rfl)) (hw _ (List.mem_of_getElem? (i := 19) rfl)) (by decide) (rm5 l Z a0 hw [] u0 h0) own_pd1 rfl e0 (by rw [hml]; rfl) (argsL := [.int u0]) (st := []) rfl (W := 0) (Nat.le_of_eq rfl) (by decide) (by decide) (by decide) (by decide) (hb hby own_d4_3) (q := 6) rfl (fun T537 X538 e539 => ?_)
  refine own_if0P X538 hx (hb hby own_d4_6) (cd := .eq) (x := own_f5 u0) (pt := 45) (q := 9) (by decide) (by decide) rfl rfl (fun h => False.elim (((own_ir hP.1.1) : ¬ ((own_f5 u0) = (0 : Int32))) h)) (fun _ => ?_)
  refine own_aloadN X538 hx (hb hby own_d4_9) (q := 10) rfl rfl rfl ?_
  refine own_iconst X538 hx (v := (1 : Int32)) (hb hby own_d4_10) (q := 11) rfl rfl ?_
  refine own_iaload X538 hx hZ (i := 1) (v := .int u1) e539 V0p (by decide) (by decide) rfl (hb hby own_d4_11) (q := 12) rfl ?_
  refine own_callSP X538 hx hZ hown (hw _ (List.mem_of_getElem? (i := 17) rfl)) (hw _ (List.mem_of_getElem? (i := 18) rfl)) (hw _ (List.mem_of_getElem? (i := 2) rfl)) (hw _ (List.mem_of_getElem? (i := 19) rfl)) (by decide) (rm5 l Z a0 hw [] u1 h0) own_pd1 rfl e539 (by rw [hml]; rfl) (argsL := [.int u1]) (st := []) rfl (W := 0) (Nat.le_of_eq rfl) (by decide) (by decide) (by decide) (by decide) (hb hby own_d4_12) (q := 15) rfl (fun T540 X541 e542 => ?_)
  refine own_if0P X541 hx (hb hby own_d4_15) (cd := .eq) (x := own_f5 u1) (pt := 45) (q := 18) (by decide) (by decide) rfl rfl (fun h => False.elim (((own_ir hP.1.2.1) : ¬ ((own_f5 u1) = (0 : Int32))) h)) (fun _ => ?_)
  refine own_aloadN X541 hx (hb hby own_d4_18) (q := 19) rfl rfl rfl ?_
  refine own_iconst X541 hx (v := (2 : Int32)) (hb hby own_d4_19) (q := 20) rfl rfl ?_
  refine own_iaload X541 hx hZ (i := 2) (v := .int u2) e542 V0p (by decide) (by decide) rfl (hb hby own_d4_20) (q := 21) rfl ?_
  refine own_callSP X541 hx hZ hown (hw _ (List.mem_of_getElem? (i := 17) rfl)) (hw _ (List.mem_of_getElem? (i := 18) rfl)) (hw _ (List.mem_of_getElem? (i := 2) rfl)) (hw _ (List.mem_of_getElem? (i := 19) rfl)) (by decide) (rm5 l Z a0 hw [] u2 h0) own_pd1 rfl e542 (by rw [hml]; rfl) (argsL := [.int u2]) (st := []) rfl (W := 0) (Nat.le_of_eq rfl) (by decide) (by decide) (by decide) (by decide) (hb hby own_d4_21) (q := 24) rfl (fun T543 X544 e545 => ?_)
  refine own_if0P X544 hx (hb hby own_d4_24) (cd := .eq) (x := own_f5 u2) (pt := 45) (q := 27) (by decide) (by decide) rfl rfl (fun h => False.elim (((own_ir hP.1.2.2.1) : ¬ ((own_f5 u2) = (0 : Int32))) h)) (fun _ => ?_)
  refine own_aloadN X544 hx (hb hby own_d4_27) (q := 28) rfl rfl rfl ?_
  refine own_iconst X544 hx (v := (3 : Int32)) (hb hby own_d4_28) (q := 29) rfl rfl ?_
  refine own_iaload X544 hx hZ (i := 3) (v := .int u3) e545 V0p (by decide) (by decide) rfl (hb hby own_d4_29) (q := 30) rfl ?_
  refine own_callSP X544 hx hZ hown (hw _ (List.mem_of_getElem? (i := 17) rfl)) (hw _ (List.mem_of_getElem? (i := 18) rfl)) (hw _ (List.mem_of_getElem? (i := 2) rfl)) (hw _ (List.mem_of_getElem? (i := 19) rfl)) (by decide) (rm5 l Z a0 hw [] u3 h0) own_pd1 rfl e545 (by rw [hml]; rfl) (argsL := [.int u3]) (st := []) rfl (W := 0) (Nat.le_of_eq rfl) (by decide) (by decide) (by decide) (by decide) (hb hby own_d4_30) (q := 33) rfl (fun T546 X547 e548 => ?_)
  refine own_if0P X547 hx (hb hby own_d4_33) (cd := .eq) (x := own_f5 u3) (pt := 45) (q := 36) (by decide) (by decide) rfl rfl (fun h => False.elim (((own_ir hP.1.2.2.2.1) : ¬ ((own_f5 u3) = (0 : Int32))) h)) (fun _ => ?_)
  refine own_aloadN X547 hx (hb hby own_d4_36) (q := 37) rfl rfl rfl ?_
  refine own_iconst X547 hx (v := (4 : Int32)) (hb hby own_d4_37) (q := 38) rfl rfl ?_
  refine own_iaload X547 hx hZ (i := 4) (v := .int u4) e548 V0p (by decide) (by decide) rfl (hb hby own_d4_38) (q := 39) rfl ?_
  refine own_callSP X547 hx hZ hown (hw _ (List.mem_of_getElem? (i := 17) rfl)) (hw _ (List.mem_of_getElem? (i := 18) rfl)) (hw _ (List.mem_of_getElem? (i := 2) rfl)) (hw _ (List.mem_of_getElem? (i := 19) rfl)) (by decide) (rm5 l Z a0 hw [] u4 h0) own_pd1 rfl e548 (by rw [hml]; rfl) (argsL := [.int u4]) (st := []) rfl (W := 0) (Nat.le_of_eq rfl) (by decide) (by decide) (by decide) (by decide) (hb hby own_d4_39) (q := 42) rfl (fun T549 X550 e551 => ?_)
  refine own_if0M X550 hx (hb hby own_d4_42) (cd := .ne) (x := own_f5 u4) (pt := 47) (q := 45) (by decide) (by decide) rfl rfl (fun _ => ?_) (fun h => False.elim (((own_ir hP.1.2.2.2.2) : ¬ ((own_f5 u4) = (0 : Int32))) h))
  refine own_iconst X550 hx (v := (5 : Int32)) (hb hby own_d4_47) (q := 48) rfl rfl ?_
  refine own_newA X550 hx hZ (aty := .boolean) (ty := .boolean) (k := 5) (cap := 5) rfl (hw _ (List.mem_of_getElem? (i := 13) rfl)) e551 (by decide) (by decide) (by decide) (by decide) (by decide) (by decide) (hb hby own_d4_48) (q := 50) rfl (fun T552 h555 a556 X553 e554 g557 E558 A559 => ?_)
  have O560 : h0.size ≤ a556 := by rw [g557]; exact K0.1
  have V561 := V0p.ext E558
  have K562 := K0.ext E558
  have ne563 : a1 ≠ a556 := by rw [g557]; exact Nat.ne_of_lt V0p.lt
  have Z564 : n0 ≤ a556 := by rw [g557]; exact Z0
  have Z565 : n0 ≤ h555.size := Nat.le_trans Z0 E558.1
  replace A559 : own_A Z h555 a556 .boolean [.int (0 : Int32), .int (0 : Int32), .int (0 : Int32), .int (0 : Int32), .int (0 : Int32)] := A559
  refine own_astoreN (L' := #[.val (.ref a1), .val (.ref a556)]) X553 hx (hb hby own_d4_50) (q := 51) rfl rfl rfl ?_
  refine own_aloadN X553 hx (hb hby own_d4_51) (q := 52) rfl rfl rfl ?_
  refine own_aloadN X553 hx (hb hby own_d4_52) (q := 53) rfl rfl rfl ?_
  refine own_iconst X553 hx (v := (0 : Int32)) (hb hby own_d4_53) (q := 54) rfl rfl ?_
  refine own_iaload X553 hx hZ (i := 0) (v := .int u0) e554 V561 (by decide) (by decide) rfl (hb hby own_d4_54) (q := 55) rfl ?_
  refine own_iconst X553 hx (v := (1 : Int32)) (hb hby own_d4_55) (q := 56) rfl rfl ?_
  refine own_zastore X553 hx hZ (i := (u0).toNatClampNeg) e554 A559 (own_nn5 hP.1.1) rfl (own_lt5 hP.1.1) (hb hby own_d4_56) (q := 57) rfl (fun T566 h569 X567 e568 W570 A571 => ?_)
  replace A571 : own_A Z h569 a556 .boolean [.int (own_z_up u0 0 (1 : Int32) (0 : Int32)), .int (own_z_up u0 1 (1 : Int32) (0 : Int32)), .int (own_z_up u0 2 (1 : Int32) (0 : Int32)), .int (own_z_up u0 3 (1 : Int32) (0 : Int32)), .int (own_z_up u0 4 (1 : Int32) (0 : Int32))] := by rw [own_set5 hP.1.1] at A571; exact A571
  have V572 := V561.other W570 ne563
  have K573 := K562.wr W570 (Or.inr O560)
  have Z574 : n0 ≤ h569.size := W570.size ▸ Z565
  have N575 := Fr.snoc X567 N0 Z564
  refine own_aloadN X567 hx (hb hby own_d4_57) (q := 58) rfl rfl rfl ?_
  refine own_aloadN X567 hx (hb hby own_d4_58) (q := 59) rfl rfl rfl ?_
  refine own_iconst X567 hx (v := (1 : Int32)) (hb hby own_d4_59) (q := 60) rfl rfl ?_
  refine own_iaload X567 hx hZ (i := 1) (v := .int u1) e568 V572 (by decide) (by decide) rfl (hb hby own_d4_60) (q := 61) rfl ?_
  refine own_iconst X567 hx (v := (1 : Int32)) (hb hby own_d4_61) (q := 62) rfl rfl ?_
  refine own_zastore X567 hx hZ (i := (u1).toNatClampNeg) e568 A571 (own_nn5 hP.1.2.1) rfl (own_lt5 hP.1.2.1) (hb hby own_d4_62) (q := 63) rfl (fun T576 h579 X577 e578 W580 A581 => ?_)
  replace A581 : own_A Z h579 a556 .boolean [.int (own_z_up u1 0 (1 : Int32) (own_z_up u0 0 (1 : Int32) (0 : Int32))), .int (own_z_up u1 1 (1 : Int32) (own_z_up u0 1 (1 : Int32) (0 : Int32))), .int (own_z_up u1 2 (1 : Int32) (own_z_up u0 2 (1 : Int32) (0 : Int32))), .int (own_z_up u1 3 (1 : Int32) (own_z_up u0 3 (1 : Int32) (0 : Int32))), .int (own_z_up u1 4 (1 : Int32) (own_z_up u0 4 (1 : Int32) (0 : Int32)))] := by rw [own_set5 hP.1.2.1] at A581; exact A581
  have V582 := V572.other W580 ne563
  have K583 := K573.wr W580 (Or.inr O560)
  have Z584 : n0 ≤ h579.size := W580.size ▸ Z574
  have N585 := Fr.snoc X577 N575 Z564
  refine own_aloadN X577 hx (hb hby own_d4_63) (q := 64) rfl rfl rfl ?_
  refine own_aloadN X577 hx (hb hby own_d4_64) (q := 65) rfl rfl rfl ?_
  refine own_iconst X577 hx (v := (2 : Int32)) (hb hby own_d4_65) (q := 66) rfl rfl ?_
  refine own_iaload X577 hx hZ (i := 2) (v := .int u2) e578 V582 (by decide) (by decide) rfl (hb hby own_d4_66) (q := 67) rfl ?_
  refine own_iconst X577 hx (v := (1 : Int32)) (hb hby own_d4_67) (q := 68) rfl rfl ?_
  refine own_zastore X577 hx hZ (i := (u2).toNatClampNeg) e578 A581 (own_nn5 hP.1.2.2.1) rfl (own_lt5 hP.1.2.2.1) (hb hby own_d4_68) (q := 69) rfl (fun T586 h589 X587 e588 W590 A591 => ?_)
  replace A591 : own_A Z h589 a556 .boolean [.int (own_z_up u2 0 (1 : Int32) (own_z_up u1 0 (1 : Int32) (own_z_up u0 0 (1 : Int32) (0 : Int32)))), .int (own_z_up u2 1 (1 : Int32) (own_z_up u1 1 (1 : Int32) (own_z_up u0 1 (1 : Int32) (0 : Int32)))), .int (own_z_up u2 2 (1 : Int32) (own_z_up u1 2 (1 : Int32) (own_z_up u0 2 (1 : Int32) (0 : Int32)))), .int (own_z_up u2 3 (1 : Int32) (own_z_up u1 3 (1 : Int32) (own_z_up u0 3 (1 : Int32) (0 : Int32)))), .int (own_z_up u2 4 (1 : Int32) (own_z_up u1 4 (1 : Int32) (own_z_up u0 4 (1 : Int32) (0 : Int32))))] := by rw [own_set5 hP.1.2.2.1] at A591; exact A591
  have V592 := V582.other W590 ne563
  have K593 := K583.wr W590 (Or.inr O560)
  have Z594 : n0 ≤ h589.size := W590.size ▸ Z584
  have N595 := Fr.snoc X587 N585 Z564
  refine own_aloadN X587 hx (hb hby own_d4_69) (q := 70) rfl rfl rfl ?_
  refine own_aloadN X587 hx (hb hby own_d4_70) (q := 71) rfl rfl rfl ?_
  refine own_iconst X587 hx (v := (3 : Int32)) (hb hby own_d4_71) (q := 72) rfl rfl ?_
  refine own_iaload X587 hx hZ (i := 3) (v := .int u3) e588 V592 (by decide) (by decide) rfl (hb hby own_d4_72) (q := 73) rfl ?_
  refine own_iconst X587 hx (v := (1 : Int32)) (hb hby own_d4_73) (q := 74) rfl rfl ?_
  refine own_zastore X587 hx hZ (i := (u3).toNatClampNeg) e588 A591 (own_nn5 hP.1.2.2.2.1) rfl (own_lt5 hP.1.2.2.2.1) (hb hby own_d4_74) (q := 75) rfl (fun T596 h599 X597 e598 W600 A601 => ?_)
  replace A601 : own_A Z h599 a556 .boolean [.int (own_z_up u3 0 (1 : Int32) (own_z_up u2 0 (1 : Int32) (own_z_up u1 0 (1 : Int32) (own_z_up u0 0 (1 : Int32) (0 : Int32))))), .int (own_z_up u3 1 (1 : Int32) (own_z_up u2 1 (1 : Int32) (own_z_up u1 1 (1 : Int32) (own_z_up u0 1 (1 : Int32) (0 : Int32))))), .int (own_z_up u3 2 (1 : Int32) (own_z_up u2 2 (1 : Int32) (own_z_up u1 2 (1 : Int32) (own_z_up u0 2 (1 : Int32) (0 : Int32))))), .int (own_z_up u3 3 (1 : Int32) (own_z_up u2 3 (1 : Int32) (own_z_up u1 3 (1 : Int32) (own_z_up u0 3 (1 : Int32) (0 : Int32))))), .int (own_z_up u3 4 (1 : Int32) (own_z_up u2 4 (1 : Int32) (own_z_up u1 4 (1 : Int32) (own_z_up u0 4 (1 : Int32) (0 : Int32)))))] := by rw [own_set5 hP.1.2.2.2.1] at A601; exact A601
  have V602 := V592.other W600 ne563
  have K603 := K593.wr W600 (Or.inr O560)
  have Z604 : n0 ≤ h599.size := W600.size ▸ Z594
  have N605 := Fr.snoc X597 N595 Z564
  refine own_aloadN X597 hx (hb hby own_d4_75) (q := 76) rfl rfl rfl ?_
  refine own_aloadN X597 hx (hb hby own_d4_76) (q := 77) rfl rfl rfl ?_
  refine own_iconst X597 hx (v := (4 : Int32)) (hb hby own_d4_77) (q := 78) rfl rfl ?_
  refine own_iaload X597 hx hZ (i := 4) (v := .int u4) e598 V602 (by decide) (by decide) rfl (hb hby own_d4_78) (q := 79) rfl ?_
  refine own_iconst X597 hx (v := (1 : Int32)) (hb hby own_d4_79) (q := 80) rfl rfl ?_
  refine own_zastore X597 hx hZ (i := (u4).toNatClampNeg) e598 A601 (own_nn5 hP.1.2.2.2.2) rfl (own_lt5 hP.1.2.2.2.2) (hb hby own_d4_80) (q := 81) rfl (fun T606 h609 X607 e608 W610 A611 => ?_)
  replace A611 : own_A Z h609 a556 .boolean [.int (own_z_up u4 0 (1 : Int32) (own_z_up u3 0 (1 : Int32) (own_z_up u2 0 (1 : Int32) (own_z_up u1 0 (1 : Int32) (own_z_up u0 0 (1 : Int32) (0 : Int32)))))), .int (own_z_up u4 1 (1 : Int32) (own_z_up u3 1 (1 : Int32) (own_z_up u2 1 (1 : Int32) (own_z_up u1 1 (1 : Int32) (own_z_up u0 1 (1 : Int32) (0 : Int32)))))), .int (own_z_up u4 2 (1 : Int32) (own_z_up u3 2 (1 : Int32) (own_z_up u2 2 (1 : Int32) (own_z_up u1 2 (1 : Int32) (own_z_up u0 2 (1 : Int32) (0 : Int32)))))), .int (own_z_up u4 3 (1 : Int32) (own_z_up u3 3 (1 : Int32) (own_z_up u2 3 (1 : Int32) (own_z_up u1 3 (1 : Int32) (own_z_up u0 3 (1 : Int32) (0 : Int32)))))), .int (own_z_up u4 4 (1 : Int32) (own_z_up u3 4 (1 : Int32) (own_z_up u2 4 (1 : Int32) (own_z_up u1 4 (1 : Int32) (own_z_up u0 4 (1 : Int32) (0 : Int32))))))] := by rw [own_set5 hP.1.2.2.2.2] at A611; exact A611
  have V612 := V602.other W610 ne563
  have K613 := K603.wr W610 (Or.inr O560)
  have Z614 : n0 ≤ h609.size := W610.size ▸ Z604
  have N615 := Fr.snoc X607 N605 Z564
  refine own_aloadN X607 hx (hb hby own_d4_81) (q := 82) rfl rfl rfl ?_
  refine own_iconst X607 hx (v := (0 : Int32)) (hb hby own_d4_82) (q := 83) rfl rfl ?_
  refine own_zaload X607 hx hZ (i := 0) (v := .int (own_z_up u4 0 (1 : Int32) (own_z_up u3 0 (1 : Int32) (own_z_up u2 0 (1 : Int32) (own_z_up u1 0 (1 : Int32) (own_z_up u0 0 (1 : Int32) (0 : Int32))))))) e608 A611 (by decide) (by decide) rfl (hb hby own_d4_83) (q := 84) rfl ?_
  refine own_if0P X607 hx (hb hby own_d4_84) (cd := .eq) (x := own_z_up u4 0 (1 : Int32) (own_z_up u3 0 (1 : Int32) (own_z_up u2 0 (1 : Int32) (own_z_up u1 0 (1 : Int32) (own_z_up u0 0 (1 : Int32) (0 : Int32)))))) (pt := 115) (q := 87) (by decide) (by decide) rfl rfl (fun h => False.elim (((own_seen0 hP) : ¬ ((own_z_up u4 0 (1 : Int32) (own_z_up u3 0 (1 : Int32) (own_z_up u2 0 (1 : Int32) (own_z_up u1 0 (1 : Int32) (own_z_up u0 0 (1 : Int32) (0 : Int32)))))) = (0 : Int32))) h)) (fun _ => ?_)
  refine own_aloadN X607 hx (hb hby own_d4_87) (q := 88) rfl rfl rfl ?_
  refine own_iconst X607 hx (v := (1 : Int32)) (hb hby own_d4_88) (q := 89) rfl rfl ?_
  refine own_zaload X607 hx hZ (i := 1) (v := .int (own_z_up u4 1 (1 : Int32) (own_z_up u3 1 (1 : Int32) (own_z_up u2 1 (1 : Int32) (own_z_up u1 1 (1 : Int32) (own_z_up u0 1 (1 : Int32) (0 : Int32))))))) e608 A611 (by decide) (by decide) rfl (hb hby own_d4_89) (q := 90) rfl ?_
  refine own_if0P X607 hx (hb hby own_d4_90) (cd := .eq) (x := own_z_up u4 1 (1 : Int32) (own_z_up u3 1 (1 : Int32) (own_z_up u2 1 (1 : Int32) (own_z_up u1 1 (1 : Int32) (own_z_up u0 1 (1 : Int32) (0 : Int32)))))) (pt := 115) (q := 93) (by decide) (by decide) rfl rfl (fun h => False.elim (((own_seen1 hP) : ¬ ((own_z_up u4 1 (1 : Int32) (own_z_up u3 1 (1 : Int32) (own_z_up u2 1 (1 : Int32) (own_z_up u1 1 (1 : Int32) (own_z_up u0 1 (1 : Int32) (0 : Int32)))))) = (0 : Int32))) h)) (fun _ => ?_)
  refine own_aloadN X607 hx (hb hby own_d4_93) (q := 94) rfl rfl rfl ?_
  refine own_iconst X607 hx (v := (2 : Int32)) (hb hby own_d4_94) (q := 95) rfl rfl ?_
  refine own_zaload X607 hx hZ (i := 2) (v := .int (own_z_up u4 2 (1 : Int32) (own_z_up u3 2 (1 : Int32) (own_z_up u2 2 (1 : Int32) (own_z_up u1 2 (1 : Int32) (own_z_up u0 2 (1 : Int32) (0 : Int32))))))) e608 A611 (by decide) (by decide) rfl (hb hby own_d4_95) (q := 96) rfl ?_
  refine own_if0P X607 hx (hb hby own_d4_96) (cd := .eq) (x := own_z_up u4 2 (1 : Int32) (own_z_up u3 2 (1 : Int32) (own_z_up u2 2 (1 : Int32) (own_z_up u1 2 (1 : Int32) (own_z_up u0 2 (1 : Int32) (0 : Int32)))))) (pt := 115) (q := 99) (by decide) (by decide) rfl rfl (fun h => False.elim (((own_seen2 hP) : ¬ ((own_z_up u4 2 (1 : Int32) (own_z_up u3 2 (1 : Int32) (own_z_up u2 2 (1 : Int32) (own_z_up u1 2 (1 : Int32) (own_z_up u0 2 (1 : Int32) (0 : Int32)))))) = (0 : Int32))) h)) (fun _ => ?_)
  refine own_aloadN X607 hx (hb hby own_d4_99) (q := 100) rfl rfl rfl ?_
  refine own_iconst X607 hx (v := (3 : Int32)) (hb hby own_d4_100) (q := 101) rfl rfl ?_
  refine own_zaload X607 hx hZ (i := 3) (v := .int (own_z_up u4 3 (1 : Int32) (own_z_up u3 3 (1 : Int32) (own_z_up u2 3 (1 : Int32) (own_z_up u1 3 (1 : Int32) (own_z_up u0 3 (1 : Int32) (0 : Int32))))))) e608 A611 (by decide) (by decide) rfl (hb hby own_d4_101) (q := 102) rfl ?_
  refine own_if0P X607 hx (hb hby own_d4_102) (cd := .eq) (x := own_z_up u4 3 (1 : Int32) (own_z_up u3 3 (1 : Int32) (own_z_up u2 3 (1 : Int32) (own_z_up u1 3 (1 : Int32) (own_z_up u0 3 (1 : Int32) (0 : Int32)))))) (pt := 115) (q := 105) (by decide) (by decide) rfl rfl (fun h => False.elim (((own_seen3 hP) : ¬ ((own_z_up u4 3 (1 : Int32) (own_z_up u3 3 (1 : Int32) (own_z_up u2 3 (1 : Int32) (own_z_up u1 3 (1 : Int32) (own_z_up u0 3 (1 : Int32) (0 : Int32)))))) = (0 : Int32))) h)) (fun _ => ?_)
  refine own_aloadN X607 hx (hb hby own_d4_105) (q := 106) rfl rfl rfl ?_
  refine own_iconst X607 hx (v := (4 : Int32)) (hb hby own_d4_106) (q := 107) rfl rfl ?_
  refine own_zaload X607 hx hZ (i := 4) (v := .int (own_z_up u4 4 (1 : Int32) (own_z_up u3 4 (1 : Int32) (own_z_up u2 4 (1 : Int32) (own_z_up u1 4 (1 : Int32) (own_z_up u0 4 (1 : Int32) (0 : Int32))))))) e608 A611 (by decide) (by decide) rfl (hb hby own_d4_107) (q := 108) rfl ?_
  refine own_if0P X607 hx (hb hby own_d4_108) (cd := .eq) (x := own_z_up u4 4 (1 : Int32) (own_z_up u3 4 (1 : Int32) (own_z_up u2 4 (1 : Int32) (own_z_up u1 4 (1 : Int32) (own_z_up u0 4 (1 : Int32) (0 : Int32)))))) (pt := 115) (q := 111) (by decide) (by decide) rfl rfl (fun h => False.elim (((own_seen4 hP) : ¬ ((own_z_up u4 4 (1 : Int32) (own_z_up u3 4 (1 : Int32) (own_z_up u2 4 (1 : Int32) (own_z_up u1 4 (1 : Int32) (own_z_up u0 4 (1 : Int32) (0 : Int32)))))) = (0 : Int32))) h)) (fun _ => ?_)
  refine own_iconst X607 hx (v := (1 : Int32)) (hb hby own_d4_111) (q := 112) rfl rfl ?_
  refine own_goto X607 hx (hb hby own_d4_112) (q := 116) (by decide) (by decide) ?_
  refine own_retN X607 hx hlk (t := .boolean) (by simp) Bd.returns (hb hby own_d4_116) ?_ (by decide) (by decide)
  have r : own_f4 a1 u0 u1 u2 u3 u4 = (1 : Int32) := by rw [own_f4]
  show own_Q4 Z a1 u0 u1 u2 u3 u4 h0 n0 _ T606.heap _
  rw [e608]
  exact ⟨(by rw [r] <;> rfl), N615, K613, V612⟩
theorem own_ef6_k0 (m : MethodId) (a1 : Addr) (a2 : Addr) (p3 : Int32) (p4 : Int32) : entryFrame m #[.ref a1, .ref a2, .int p3, .int p4, .int (0 : Int32)] 5 = mkF m 0 #[.val (.ref a1), .val (.ref a2), .val (.int p3), .val (.int p4), .val (.int (0 : Int32))] [] := by first | (simp [entryFrame, mkF, argsToLocals, Value.category]; done) | rfl
theorem own_d6_0 : decode method_7_code 0 = .ok (.iload 4, 2) := by decide +kernel
theorem own_d6_2 : decode method_7_code 2 = .ok (.iload_n 2, 1) := by decide +kernel
theorem own_d6_3 : decode method_7_code 3 = .ok (.if_icmp .lt 20, 3) := by decide +kernel
theorem own_d6_6 : decode method_7_code 6 = .ok (.iload 4, 2) := by decide +kernel
theorem own_d6_8 : decode method_7_code 8 = .ok (.iload_n 3, 1) := by decide +kernel
theorem own_d6_9 : decode method_7_code 9 = .ok (.if_icmp .gt 14, 3) := by decide +kernel
theorem own_d6_12 : decode method_7_code 12 = .ok (.aload_n 0, 1) := by decide +kernel
theorem own_d6_13 : decode method_7_code 13 = .ok (.iload 4, 2) := by decide +kernel
theorem own_d6_15 : decode method_7_code 15 = .ok (.iaload, 1) := by decide +kernel
theorem own_d6_16 : decode method_7_code 16 = .ok (.aload_n 1, 1) := by decide +kernel
theorem own_d6_17 : decode method_7_code 17 = .ok (.iload 4, 2) := by decide +kernel
theorem own_d6_19 : decode method_7_code 19 = .ok (.iaload, 1) := by decide +kernel
theorem own_d6_20 : decode method_7_code 20 = .ok (.if_icmp .ne 7, 3) := by decide +kernel
theorem own_d6_23 : decode method_7_code 23 = .ok (.iconst 1, 1) := by decide +kernel
theorem own_d6_24 : decode method_7_code 24 = .ok (.goto 4, 3) := by decide +kernel
theorem own_d6_28 : decode method_7_code 28 = .ok (.ireturn, 1) := by decide +kernel
def own_f6_0 (p3 : Int32) (p4 : Int32) (u0 : Int32) (u1 : Int32) (u2 : Int32) (u3 : Int32) (u4 : Int32) (k0 : Int32) (k1 : Int32) (k2 : Int32) (k3 : Int32) (k4 : Int32) : Int32 := (if (0 : Int32) < p3 then (1 : Int32) else (if p4 < (0 : Int32) then (1 : Int32) else (1 : Int32)))
set_option maxRecDepth 65536 in
set_option maxHeartbeats 40000000 in
theorem rm6_0 (l : Launch) (Z : State) (a0 : Array Value) (hw : ∀ d ∈ tables_1, d.before a0 Z = true) (ws : List Jvm.Cond) (a1 : Addr) (a2 : Addr) (p3 : Int32) (p4 : Int32) (u0 : Int32) (u1 : Int32) (u2 : Int32) (u3 : Int32) (u4 : Int32) (k0 : Int32) (k1 : Int32) (k2 : Int32) (k3 : Int32) (k4 : Int32) (h0 : Heap) (V0p : own_A Z h0 a1 .int [.int u0, .int u1, .int u2, .int u3, .int u4]) (V1p : own_A Z h0 a2 .int [.int k0, .int k1, .int k2, .int k3, .int k4]) (hq : p3 ≤ 0 → 0 ≤ p4 → u0 = k0) :
    MetFree l (⟨"com/example/tourloom/tourloom/GeneticOperatorsOrderCrossoverPinLaw", "keptAt", "([I[IIII)Z"⟩ : MethodName) (head1 (Jvm.Cond.code (⟨"com/example/tourloom/tourloom/GeneticOperatorsOrderCrossoverPinLaw", "keptAt", "([I[IIII)Z"⟩ : MethodName) method_7_code 5 (some .boolean) :: ws) ({ frames := 0, cells := 0, slots := 0, locals := 0 } : Room)) (fun a U => a = #[.ref a1, .ref a2, .int p3, .int p4, .int (0 : Int32)] ∧ Z.Warmed39 U.vm ∧ U.heap = h0) (fun _ _ _ _ _ => True) (fun _ U o U' => ∃ v L, o = .returned v ∧ own_P (.int (own_f6_0 p3 p4 u0 u1 u2 u3 u4 k0 k1 k2 k3 k4)) h0 v U'.heap L ∧ FrameEnd U o U' L ({ frames := 0, cells := 0, slots := 0, locals := 0 } : Room).cells ({ frames := 0, cells := 0, slots := 0, locals := 0 } : Room).slots) := by
  refine MetFree.of_bodySF (plainFor_of_name own_pn0) hisR ?_
  intro p e s m args below meth c s₁ Bd hml0 hP hK
  obtain ⟨rfl, hZ, hh⟩ := hP
  have hx := Bd.exec
  have hby := Bd.bytes
  have hml : c.maxLocals = 5 := hml0
  have hown : s.vm.findClass "com/example/tourloom/tourloom/GeneticOperatorsOrderCrossoverPinLaw" = some m.cls := findClass_of_methodNamed Bd.named
  have hnm := (name_of_methodNamed Bd.named Bd.method).1
  have hlk : meth.locks = false := BodyLoose.notSynchronized Bd
  have X0 : Stand p l e ({ frames := 0, cells := 0, slots := 0, locals := 0 } : Room) s m #[.ref a1, .ref a2, .int p3, .int p4, .int (0 : Int32)] below meth c s₁ [] 0 0 := Stand.of_body Bd
  have e0 : s₁.heap = h0 := by rw [← hh, Bd.state]; rfl
  show own_Go p e below (own_E s 0 0 (own_P (.int (own_f6_0 p3 p4 u0 u1 u2 u3 u4 k0 k1 k2 k3 k4)) h0)) (s₁.setTop (entryFrame m #[.ref a1, .ref a2, .int p3, .int p4, .int (0 : Int32)] 5))
  rw [own_ef6_k0]
  refine own_iload X0 hx (hb hby own_d6_0) (q := 2) rfl rfl ?_
  refine own_iloadN X0 hx (hb hby own_d6_2) (q := 3) rfl rfl ?_
  refine own_icmpP X0 hx (hb hby own_d6_3) (cd := .lt) (x := (0 : Int32)) (y := p3) (pt := 23) (q := 6) (by decide) (by decide) rfl rfl (fun (c1 : (0 : Int32) < p3) => ?_) (fun (c1 : ¬ ((0 : Int32) < p3)) => ?_)
  · refine own_iconst X0 hx (v := (1 : Int32)) (hb hby own_d6_23) (q := 24) rfl rfl ?_
    refine own_goto X0 hx (hb hby own_d6_24) (q := 28) (by decide) (by decide) ?_
    refine own_retN X0 hx hlk (t := .boolean) (by simp) Bd.returns (hb hby own_d6_28) ?_ (by decide) (by decide)
    have r : own_f6_0 p3 p4 u0 u1 u2 u3 u4 k0 k1 k2 k3 k4 = (1 : Int32) := by rw [own_f6_0, if_pos c1]
    exact ⟨by rw [r] <;> rfl, e0, rfl⟩
  · refine own_iload X0 hx (hb hby own_d6_6) (q := 8) rfl rfl ?_
    refine own_iloadN X0 hx (hb hby own_d6_8) (q := 9) rfl rfl ?_
    refine own_icmpP X0 hx (hb hby own_d6_9) (cd := .gt) (x := (0 : Int32)) (y := p4) (pt := 23) (q := 12) (by decide) (by decide) rfl rfl (fun (c2 : p4 < (0 : Int32)) => ?_) (fun (c2 : ¬ (p4 < (0 : Int32))) => ?_)
    · refine own_iconst X0 hx (v := (1 : Int32)) (hb hby own_d6_23) (q := 24) rfl rfl ?_
      refine own_goto X0 hx (hb hby own_d6_24) (q := 28) (by decide) (by decide) ?_
      refine own_retN X0 hx hlk (t := .boolean) (by simp) Bd.returns (hb hby own_d6_28) ?_ (by decide) (by decide)
      have r : own_f6_0 p3 p4 u0 u1 u2 u3 u4 k0 k1 k2 k3 k4 = (1 : Int32) := by rw [own_f6_0, if_neg c1, if_pos c2]
      exact ⟨by rw [r] <;> rfl, e0, rfl⟩
    · refine own_aloadN X0 hx (hb hby own_d6_12) (q := 13) rfl rfl rfl ?_
      refine own_iload X0 hx (hb hby own_d6_13) (q := 15) rfl rfl ?_
      refine own_iaload X0 hx hZ (i := 0) (v := .int u0) e0 V0p (by decide) (by decide) rfl (hb hby own_d6_15) (q := 16) rfl ?_
      refine own_aloadN X0 hx (hb hby own_d6_16) (q := 17) rfl rfl rfl ?_
      refine own_iload X0 hx (hb hby own_d6_17) (q := 19) rfl rfl ?_
      refine own_iaload X0 hx hZ (i := 0) (v := .int k0) e0 V1p (by decide) (by decide) rfl (hb hby own_d6_19) (q := 20) rfl ?_
      refine own_icmpM X0 hx (hb hby own_d6_20) (cd := .ne) (x := u0) (y := k0) (pt := 27) (q := 23) (by decide) (by decide) rfl rfl (fun h => False.elim (h ((hq (Int32.not_lt.mp c1) (Int32.not_lt.mp c2)) : u0 = k0))) (fun _ => ?_)
      refine own_iconst X0 hx (v := (1 : Int32)) (hb hby own_d6_23) (q := 24) rfl rfl ?_
      refine own_goto X0 hx (hb hby own_d6_24) (q := 28) (by decide) (by decide) ?_
      refine own_retN X0 hx hlk (t := .boolean) (by simp) Bd.returns (hb hby own_d6_28) ?_ (by decide) (by decide)
      have r : own_f6_0 p3 p4 u0 u1 u2 u3 u4 k0 k1 k2 k3 k4 = (1 : Int32) := by rw [own_f6_0, if_neg c1, if_neg c2]
      exact ⟨by rw [r] <;> rfl, e0, rfl⟩
theorem own_ka0 {lo hi u0 u1 u2 u3 u4 k0 k1 k2 k3 k4 : Int32} : ¬ own_f6_0 lo hi u0 u1 u2 u3 u4 k0 k1 k2 k3 k4 = 0 := by unfold own_f6_0; split <;> (try split) <;> decide
theorem own_ef6_k1 (m : MethodId) (a1 : Addr) (a2 : Addr) (p3 : Int32) (p4 : Int32) : entryFrame m #[.ref a1, .ref a2, .int p3, .int p4, .int (1 : Int32)] 5 = mkF m 0 #[.val (.ref a1), .val (.ref a2), .val (.int p3), .val (.int p4), .val (.int (1 : Int32))] [] := by first | (simp [entryFrame, mkF, argsToLocals, Value.category]; done) | rfl

def own_f6_1 (p3 : Int32) (p4 : Int32) (u0 : Int32) (u1 : Int32) (u2 : Int32) (u3 : Int32) (u4 : Int32) (k0 : Int32) (k1 : Int32) (k2 : Int32) (k3 : Int32) (k4 : Int32) : Int32 := (if (1 : Int32) < p3 then (1 : Int32) else (if p4 < (1 : Int32) then (1 : Int32) else (1 : Int32)))
set_option maxRecDepth 65536 in
set_option maxHeartbeats 40000000 in
theorem rm6_1 (l : Launch) (Z : State) (a0 : Array Value) (hw : ∀ d ∈ tables_1, d.before a0 Z = true) (ws : List Jvm.Cond) (a1 : Addr) (a2 : Addr) (p3 : Int32) (p4 : Int32) (u0 : Int32) (u1 : Int32) (u2 : Int32) (u3 : Int32) (u4 : Int32) (k0 : Int32) (k1 : Int32) (k2 : Int32) (k3 : Int32) (k4 : Int32) (h0 : Heap) (V0p : own_A Z h0 a1 .int [.int u0, .int u1, .int u2, .int u3, .int u4]) (V1p : own_A Z h0 a2 .int [.int k0, .int k1, .int k2, .int k3, .int k4]) (hq : p3 ≤ 1 → 1 ≤ p4 → u1 = k1) :
    MetFree l (⟨"com/example/tourloom/tourloom/GeneticOperatorsOrderCrossoverPinLaw", "keptAt", "([I[IIII)Z"⟩ : MethodName) (head1 (Jvm.Cond.code (⟨"com/example/tourloom/tourloom/GeneticOperatorsOrderCrossoverPinLaw", "keptAt", "([I[IIII)Z"⟩ : MethodName) method_7_code 5 (some .boolean) :: ws) ({ frames := 0, cells := 0, slots := 0, locals := 0 } : Room)) (fun a U => a = #[.ref a1, .ref a2, .int p3, .int p4, .int (1 : Int32)] ∧ Z.Warmed39 U.vm ∧ U.heap = h0) (fun _ _ _ _ _ => True) (fun _ U o U' => ∃ v L, o = .returned v ∧ own_P (.int (own_f6_1 p3 p4 u0 u1 u2 u3 u4 k0 k1 k2 k3 k4)) h0 v U'.heap L ∧ FrameEnd U o U' L ({ frames := 0, cells := 0, slots := 0, locals := 0 } : Room).cells ({ frames := 0, cells := 0, slots := 0, locals := 0 } : Room).slots) := by
  refine MetFree.of_bodySF (plainFor_of_name own_pn0) hisR ?_
  intro p e s m args below meth c s₁ Bd hml0 hP hK
  obtain ⟨rfl, hZ, hh⟩ := hP
  have hx := Bd.exec
  have hby := Bd.bytes
  have hml : c.maxLocals = 5 := hml0
  have hown : s.vm.findClass "com/example/tourloom/tourloom/GeneticOperatorsOrderCrossoverPinLaw" = some m.cls := findClass_of_methodNamed Bd.named
  have hnm := (name_of_methodNamed Bd.named Bd.method).1
  have hlk : meth.locks = false := BodyLoose.notSynchronized Bd
  have X0 : Stand p l e ({ frames := 0, cells := 0, slots := 0, locals := 0 } : Room) s m #[.ref a1, .ref a2, .int p3, .int p4, .int (1 : Int32)] below meth c s₁ [] 0 0 := Stand.of_body Bd
  have e0 : s₁.heap = h0 := by rw [← hh, Bd.state]; rfl
  show own_Go p e below (own_E s 0 0 (own_P (.int (own_f6_1 p3 p4 u0 u1 u2 u3 u4 k0 k1 k2 k3 k4)) h0)) (s₁.setTop (entryFrame m #[.ref a1, .ref a2, .int p3, .int p4, .int (1 : Int32)] 5))
  rw [own_ef6_k1]
  refine own_iload X0 hx (hb hby own_d6_0) (q := 2) rfl rfl ?_
  refine own_iloadN X0 hx (hb hby own_d6_2) (q := 3) rfl rfl ?_
  refine own_icmpP X0 hx (hb hby own_d6_3) (cd := .lt) (x := (1 : Int32)) (y := p3) (pt := 23) (q := 6) (by decide) (by decide) rfl rfl (fun (c1 : (1 : Int32) < p3) => ?_) (fun (c1 : ¬ ((1 : Int32) < p3)) => ?_)
  · refine own_iconst X0 hx (v := (1 : Int32)) (hb hby own_d6_23) (q := 24) rfl rfl ?_
    refine own_goto X0 hx (hb hby own_d6_24) (q := 28) (by decide) (by decide) ?_
    refine own_retN X0 hx hlk (t := .boolean) (by simp) Bd.returns (hb hby own_d6_28) ?_ (by decide) (by decide)
    have r : own_f6_1 p3 p4 u0 u1 u2 u3 u4 k0 k1 k2 k3 k4 = (1 : Int32) := by rw [own_f6_1, if_pos c1]
    exact ⟨by rw [r] <;> rfl, e0, rfl⟩
  · refine own_iload X0 hx (hb hby own_d6_6) (q := 8) rfl rfl ?_
    refine own_iloadN X0 hx (hb hby own_d6_8) (q := 9) rfl rfl ?_
    refine own_icmpP X0 hx (hb hby own_d6_9) (cd := .gt) (x := (1 : Int32)) (y := p4) (pt := 23) (q := 12) (by decide) (by decide) rfl rfl (fun (c2 : p4 < (1 : Int32)) => ?_) (fun (c2 : ¬ (p4 < (1 : Int32))) => ?_)
    · refine own_iconst X0 hx (v := (1 : Int32)) (hb hby own_d6_23) (q := 24) rfl rfl ?_
      refine own_goto X0 hx (hb hby own_d6_24) (q := 28) (by decide) (by decide) ?_
      refine own_retN X0 hx hlk (t := .boolean) (by simp) Bd.returns (hb hby own_d6_28) ?_ (by decide) (by decide)
      have r : own_f6_1 p3 p4 u0 u1 u2 u3 u4 k0 k1 k2 k3 k4 = (1 : Int32) := by rw [own_f6_1, if_neg c1, if_pos c2]
      exact ⟨by rw [r] <;> rfl, e0, rfl⟩
    · refine own_aloadN X0 hx (hb hby own_d6_12) (q := 13) rfl rfl rfl ?_
      refine own_iload X0 hx (hb hby own_d6_13) (q := 15) rfl rfl ?_
      refine own_iaload X0 hx hZ (i := 1) (v := .int u1) e0 V0p (by decide) (by decide) rfl (hb hby own_d6_15) (q := 16) rfl ?_
      refine own_aloadN X0 hx (hb hby own_d6_16) (q := 17) rfl rfl rfl ?_
      refine own_iload X0 hx (hb hby own_d6_17) (q := 19) rfl rfl ?_
      refine own_iaload X0 hx hZ (i := 1) (v := .int k1) e0 V1p (by decide) (by decide) rfl (hb hby own_d6_19) (q := 20) rfl ?_
      refine own_icmpM X0 hx (hb hby own_d6_20) (cd := .ne) (x := u1) (y := k1) (pt := 27) (q := 23) (by decide) (by decide) rfl rfl (fun h => False.elim (h ((hq (Int32.not_lt.mp c1) (Int32.not_lt.mp c2)) : u1 = k1))) (fun _ => ?_)
      refine own_iconst X0 hx (v := (1 : Int32)) (hb hby own_d6_23) (q := 24) rfl rfl ?_
      refine own_goto X0 hx (hb hby own_d6_24) (q := 28) (by decide) (by decide) ?_
      refine own_retN X0 hx hlk (t := .boolean) (by simp) Bd.returns (hb hby own_d6_28) ?_ (by decide) (by decide)
      have r : own_f6_1 p3 p4 u0 u1 u2 u3 u4 k0 k1 k2 k3 k4 = (1 : Int32) := by rw [own_f6_1, if_neg c1, if_neg c2]
      exact ⟨by rw [r] <;> rfl, e0, rfl⟩
theorem own_ka1 {lo hi u0 u1 u2 u3 u4 k0 k1 k2 k3 k4 : Int32} : ¬ own_f6_1 lo hi u0 u1 u2 u3 u4 k0 k1 k2 k3 k4 = 0 := by unfold own_f6_1; split <;> (try split) <;> decide
theorem own_ef6_k2 (m : MethodId) (a1 : Addr) (a2 : Addr) (p3 : Int32) (p4 : Int32) : entryFrame m #[.ref a1, .ref a2, .int p3, .int p4, .int (2 : Int32)] 5 = mkF m 0 #[.val (.ref a1), .val (.ref a2), .val (.int p3), .val (.int p4), .val (.int (2 : Int32))] [] := by first | (simp [entryFrame, mkF, argsToLocals, Value.category]; done) | rfl

def own_f6_2 (p3 : Int32) (p4 : Int32) (u0 : Int32) (u1 : Int32) (u2 : Int32) (u3 : Int32) (u4 : Int32) (k0 : Int32) (k1 : Int32) (k2 : Int32) (k3 : Int32) (k4 : Int32) : Int32 := (if (2 : Int32) < p3 then (1 : Int32) else (if p4 < (2 : Int32) then (1 : Int32) else (1 : Int32)))
set_option maxRecDepth 65536 in
set_option maxHeartbeats 40000000 in
theorem rm6_2 (l : Launch) (Z : State) (a0 : Array Value) (hw : ∀ d ∈ tables_1, d.before a0 Z = true) (ws : List Jvm.Cond) (a1 : Addr) (a2 : Addr) (p3 : Int32) (p4 : Int32) (u0 : Int32) (u1 : Int32) (u2 : Int32) (u3 : Int32) (u4 : Int32) (k0 : Int32) (k1 : Int32) (k2 : Int32) (k3 : Int32) (k4 : Int32) (h0 : Heap) (V0p : own_A Z h0 a1 .int [.int u0, .int u1, .int u2, .int u3, .int u4]) (V1p : own_A Z h0 a2 .int [.int k0, .int k1, .int k2, .int k3, .int k4]) (hq : p3 ≤ 2 → 2 ≤ p4 → u2 = k2) :
    MetFree l (⟨"com/example/tourloom/tourloom/GeneticOperatorsOrderCrossoverPinLaw", "keptAt", "([I[IIII)Z"⟩ : MethodName) (head1 (Jvm.Cond.code (⟨"com/example/tourloom/tourloom/GeneticOperatorsOrderCrossoverPinLaw", "keptAt", "([I[IIII)Z"⟩ : MethodName) method_7_code 5 (some .boolean) :: ws) ({ frames := 0, cells := 0, slots := 0, locals := 0 } : Room)) (fun a U => a = #[.ref a1, .ref a2, .int p3, .int p4, .int (2 : Int32)] ∧ Z.Warmed39 U.vm ∧ U.heap = h0) (fun _ _ _ _ _ => True) (fun _ U o U' => ∃ v L, o = .returned v ∧ own_P (.int (own_f6_2 p3 p4 u0 u1 u2 u3 u4 k0 k1 k2 k3 k4)) h0 v U'.heap L ∧ FrameEnd U o U' L ({ frames := 0, cells := 0, slots := 0, locals := 0 } : Room).cells ({ frames := 0, cells := 0, slots := 0, locals := 0 } : Room).slots) := by
  refine MetFree.of_bodySF (plainFor_of_name own_pn0) hisR ?_
  intro p e s m args below meth c s₁ Bd hml0 hP hK
  obtain ⟨rfl, hZ, hh⟩ := hP
  have hx := Bd.exec
  have hby := Bd.bytes
  have hml : c.maxLocals = 5 := hml0
  have hown : s.vm.findClass "com/example/tourloom/tourloom/GeneticOperatorsOrderCrossoverPinLaw" = some m.cls := findClass_of_methodNamed Bd.named
  have hnm := (name_of_methodNamed Bd.named Bd.method).1
  have hlk : meth.locks = false := BodyLoose.notSynchronized Bd
  have X0 : Stand p l e ({ frames := 0, cells := 0, slots := 0, locals := 0 } : Room) s m #[.ref a1, .ref a2, .int p3, .int p4, .int (2 : Int32)] below meth c s₁ [] 0 0 := Stand.of_body Bd
  have e0 : s₁.heap = h0 := by rw [← hh, Bd.state]; rfl
  show own_Go p e below (own_E s 0 0 (own_P (.int (own_f6_2 p3 p4 u0 u1 u2 u3 u4 k0 k1 k2 k3 k4)) h0)) (s₁.setTop (entryFrame m #[.ref a1, .ref a2, .int p3, .int p4, .int (2 : Int32)] 5))
  rw [own_ef6_k2]
  refine own_iload X0 hx (hb hby own_d6_0) (q := 2) rfl rfl ?_
  refine own_iloadN X0 hx (hb hby own_d6_2) (q := 3) rfl rfl ?_
  refine own_icmpP X0 hx (hb hby own_d6_3) (cd := .lt) (x := (2 : Int32)) (y := p3) (pt := 23) (q := 6) (by decide) (by decide) rfl rfl (fun (c1 : (2 : Int32) < p3) => ?_) (fun (c1 : ¬ ((2 : Int32) < p3)) => ?_)
  · refine own_iconst X0 hx (v := (1 : Int32)) (hb hby own_d6_23) (q := 24) rfl rfl ?_
    refine own_goto X0 hx (hb hby own_d6_24) (q := 28) (by decide) (by decide) ?_
    refine own_retN X0 hx hlk (t := .boolean) (by simp) Bd.returns (hb hby own_d6_28) ?_ (by decide) (by decide)
    have r : own_f6_2 p3 p4 u0 u1 u2 u3 u4 k0 k1 k2 k3 k4 = (1 : Int32) := by rw [own_f6_2, if_pos c1]
    exact ⟨by rw [r] <;> rfl, e0, rfl⟩
  · refine own_iload X0 hx (hb hby own_d6_6) (q := 8) rfl rfl ?_
    refine own_iloadN X0 hx (hb hby own_d6_8) (q := 9) rfl rfl ?_
    refine own_icmpP X0 hx (hb hby own_d6_9) (cd := .gt) (x := (2 : Int32)) (y := p4) (pt := 23) (q := 12) (by decide) (by decide) rfl rfl (fun (c2 : p4 < (2 : Int32)) => ?_) (fun (c2 : ¬ (p4 < (2 : Int32))) => ?_)
    · refine own_iconst X0 hx (v := (1 : Int32)) (hb hby own_d6_23) (q := 24) rfl rfl ?_
      refine own_goto X0 hx (hb hby own_d6_24) (q := 28) (by decide) (by decide) ?_
      refine own_retN X0 hx hlk (t := .boolean) (by simp) Bd.returns (hb hby own_d6_28) ?_ (by decide) (by decide)
      have r : own_f6_2 p3 p4 u0 u1 u2 u3 u4 k0 k1 k2 k3 k4 = (1 : Int32) := by rw [own_f6_2, if_neg c1, if_pos c2]
      exact ⟨by rw [r] <;> rfl, e0, rfl⟩
    · refine own_aloadN X0 hx (hb hby own_d6_12) (q := 13) rfl rfl rfl ?_
      refine own_iload X0 hx (hb hby own_d6_13) (q := 15) rfl rfl ?_
      refine own_iaload X0 hx hZ (i := 2) (v := .int u2) e0 V0p (by decide) (by decide) rfl (hb hby own_d6_15) (q := 16) rfl ?_
      refine own_aloadN X0 hx (hb hby own_d6_16) (q := 17) rfl rfl rfl ?_
      refine own_iload X0 hx (hb hby own_d6_17) (q := 19) rfl rfl ?_
      refine own_iaload X0 hx hZ (i := 2) (v := .int k2) e0 V1p (by decide) (by decide) rfl (hb hby own_d6_19) (q := 20) rfl ?_
      refine own_icmpM X0 hx (hb hby own_d6_20) (cd := .ne) (x := u2) (y := k2) (pt := 27) (q := 23) (by decide) (by decide) rfl rfl (fun h => False.elim (h ((hq (Int32.not_lt.mp c1) (Int32.not_lt.mp c2)) : u2 = k2))) (fun _ => ?_)
      refine own_iconst X0 hx (v := (1 : Int32)) (hb hby own_d6_23) (q := 24) rfl rfl ?_
      refine own_goto X0 hx (hb hby own_d6_24) (q := 28) (by decide) (by decide) ?_
      refine own_retN X0 hx hlk (t := .boolean) (by simp) Bd.returns (hb hby own_d6_28) ?_ (by decide) (by decide)
      have r : own_f6_2 p3 p4 u0 u1 u2 u3 u4 k0 k1 k2 k3 k4 = (1 : Int32) := by rw [own_f6_2, if_neg c1, if_neg c2]
      exact ⟨by rw [r] <;> rfl, e0, rfl⟩
theorem own_ka2 {lo hi u0 u1 u2 u3 u4 k0 k1 k2 k3 k4 : Int32} : ¬ own_f6_2 lo hi u0 u1 u2 u3 u4 k0 k1 k2 k3 k4 = 0 := by unfold own_f6_2; split <;> (try split) <;> decide
theorem own_ef6_k3 (m : MethodId) (a1 : Addr) (a2 : Addr) (p3 : Int32) (p4 : Int32) : entryFrame m #[.ref a1, .ref a2, .int p3, .int p4, .int (3 : Int32)] 5 = mkF m 0 #[.val (.ref a1), .val (.ref a2), .val (.int p3), .val (.int p4), .val (.int (3 : Int32))] [] := by first | (simp [entryFrame, mkF, argsToLocals, Value.category]; done) | rfl

def own_f6_3 (p3 : Int32) (p4 : Int32) (u0 : Int32) (u1 : Int32) (u2 : Int32) (u3 : Int32) (u4 : Int32) (k0 : Int32) (k1 : Int32) (k2 : Int32) (k3 : Int32) (k4 : Int32) : Int32 := (if (3 : Int32) < p3 then (1 : Int32) else (if p4 < (3 : Int32) then (1 : Int32) else (1 : Int32)))
set_option maxRecDepth 65536 in
set_option maxHeartbeats 40000000 in
theorem rm6_3 (l : Launch) (Z : State) (a0 : Array Value) (hw : ∀ d ∈ tables_1, d.before a0 Z = true) (ws : List Jvm.Cond) (a1 : Addr) (a2 : Addr) (p3 : Int32) (p4 : Int32) (u0 : Int32) (u1 : Int32) (u2 : Int32) (u3 : Int32) (u4 : Int32) (k0 : Int32) (k1 : Int32) (k2 : Int32) (k3 : Int32) (k4 : Int32) (h0 : Heap) (V0p : own_A Z h0 a1 .int [.int u0, .int u1, .int u2, .int u3, .int u4]) (V1p : own_A Z h0 a2 .int [.int k0, .int k1, .int k2, .int k3, .int k4]) (hq : p3 ≤ 3 → 3 ≤ p4 → u3 = k3) :
    MetFree l (⟨"com/example/tourloom/tourloom/GeneticOperatorsOrderCrossoverPinLaw", "keptAt", "([I[IIII)Z"⟩ : MethodName) (head1 (Jvm.Cond.code (⟨"com/example/tourloom/tourloom/GeneticOperatorsOrderCrossoverPinLaw", "keptAt", "([I[IIII)Z"⟩ : MethodName) method_7_code 5 (some .boolean) :: ws) ({ frames := 0, cells := 0, slots := 0, locals := 0 } : Room)) (fun a U => a = #[.ref a1, .ref a2, .int p3, .int p4, .int (3 : Int32)] ∧ Z.Warmed39 U.vm ∧ U.heap = h0) (fun _ _ _ _ _ => True) (fun _ U o U' => ∃ v L, o = .returned v ∧ own_P (.int (own_f6_3 p3 p4 u0 u1 u2 u3 u4 k0 k1 k2 k3 k4)) h0 v U'.heap L ∧ FrameEnd U o U' L ({ frames := 0, cells := 0, slots := 0, locals := 0 } : Room).cells ({ frames := 0, cells := 0, slots := 0, locals := 0 } : Room).slots) := by
  refine MetFree.of_bodySF (plainFor_of_name own_pn0) hisR ?_
  intro p e s m args below meth c s₁ Bd hml0 hP hK
  obtain ⟨rfl, hZ, hh⟩ := hP
  have hx := Bd.exec
  have hby := Bd.bytes
  have hml : c.maxLocals = 5 := hml0
  have hown : s.vm.findClass "com/example/tourloom/tourloom/GeneticOperatorsOrderCrossoverPinLaw" = some m.cls := findClass_of_methodNamed Bd.named
  have hnm := (name_of_methodNamed Bd.named Bd.method).1
  have hlk : meth.locks = false := BodyLoose.notSynchronized Bd
  have X0 : Stand p l e ({ frames := 0, cells := 0, slots := 0, locals := 0 } : Room) s m #[.ref a1, .ref a2, .int p3, .int p4, .int (3 : Int32)] below meth c s₁ [] 0 0 := Stand.of_body Bd
  have e0 : s₁.heap = h0 := by rw [← hh, Bd.state]; rfl
  show own_Go p e below (own_E s 0 0 (own_P (.int (own_f6_3 p3 p4 u0 u1 u2 u3 u4 k0 k1 k2 k3 k4)) h0)) (s₁.setTop (entryFrame m #[.ref a1, .ref a2, .int p3, .int p4, .int (3 : Int32)] 5))
  rw [own_ef6_k3]
  refine own_iload X0 hx (hb hby own_d6_0) (q := 2) rfl rfl ?_
  refine own_iloadN X0 hx (hb hby own_d6_2) (q := 3) rfl rfl ?_
  refine own_icmpP X0 hx (hb hby own_d6_3) (cd := .lt) (x := (3 : Int32)) (y := p3) (pt := 23) (q := 6) (by decide) (by decide) rfl rfl (fun (c1 : (3 : Int32) < p3) => ?_) (fun (c1 : ¬ ((3 : Int32) < p3)) => ?_)
  · refine own_iconst X0 hx (v := (1 : Int32)) (hb hby own_d6_23) (q := 24) rfl rfl ?_
    refine own_goto X0 hx (hb hby own_d6_24) (q := 28) (by decide) (by decide) ?_
    refine own_retN X0 hx hlk (t := .boolean) (by simp) Bd.returns (hb hby own_d6_28) ?_ (by decide) (by decide)
    have r : own_f6_3 p3 p4 u0 u1 u2 u3 u4 k0 k1 k2 k3 k4 = (1 : Int32) := by rw [own_f6_3, if_pos c1]
    exact ⟨by rw [r] <;> rfl, e0, rfl⟩
  · refine own_iload X0 hx (hb hby own_d6_6) (q := 8) rfl rfl ?_
    refine own_iloadN X0 hx (hb hby own_d6_8) (q := 9) rfl rfl ?_
    refine own_icmpP X0 hx (hb hby own_d6_9) (cd := .gt) (x := (3 : Int32)) (y := p4) (pt := 23) (q := 12) (by decide) (by decide) rfl rfl (fun (c2 : p4 < (3 : Int32)) => ?_) (fun (c2 : ¬ (p4 < (3 : Int32))) => ?_)
    · refine own_iconst X0 hx (v := (1 : Int32)) (hb hby own_d6_23) (q := 24) rfl rfl ?_
      refine own_goto X0 hx (hb hby own_d6_24) (q := 28) (by decide) (by decide) ?_
      refine own_retN X0 hx hlk (t := .boolean) (by simp) Bd.returns (hb hby own_d6_28) ?_ (by decide) (by decide)
      have r : own_f6_3 p3 p4 u0 u1 u2 u3 u4 k0 k1 k2 k3 k4 = (1 : Int32) := by rw [own_f6_3, if_neg c1, if_pos c2]
      exact ⟨by rw [r] <;> rfl, e0, rfl⟩
    · refine own_aloadN X0 hx (hb hby own_d6_12) (q := 13) rfl rfl rfl ?_
      refine own_iload X0 hx (hb hby own_d6_13) (q := 15) rfl rfl ?_
      refine own_iaload X0 hx hZ (i := 3) (v := .int u3) e0 V0p (by decide) (by decide) rfl (hb hby own_d6_15) (q := 16) rfl ?_
      refine own_aloadN X0 hx (hb hby own_d6_16) (q := 17) rfl rfl rfl ?_
      refine own_iload X0 hx (hb hby own_d6_17) (q := 19) rfl rfl ?_
      refine own_iaload X0 hx hZ (i := 3) (v := .int k3) e0 V1p (by decide) (by decide) rfl (hb hby own_d6_19) (q := 20) rfl ?_
      refine own_icmpM X0 hx (hb hby own_d6_20) (cd := .ne) (x := u3) (y := k3) (pt := 27) (q := 23) (by decide) (by decide) rfl rfl (fun h => False.elim (h ((hq (Int32.not_lt.mp c1) (Int32.not_lt.mp c2)) : u3 = k3))) (fun _ => ?_)
      refine own_iconst X0 hx (v := (1 : Int32)) (hb hby own_d6_23) (q := 24) rfl rfl ?_
      refine own_goto X0 hx (hb hby own_d6_24) (q := 28) (by decide) (by decide) ?_
      refine own_retN X0 hx hlk (t := .boolean) (by simp) Bd.returns (hb hby own_d6_28) ?_ (by decide) (by decide)
      have r : own_f6_3 p3 p4 u0 u1 u2 u3 u4 k0 k1 k2 k3 k4 = (1 : Int32) := by rw [own_f6_3, if_neg c1, if_neg c2]
      exact ⟨by rw [r] <;> rfl, e0, rfl⟩
theorem own_ka3 {lo hi u0 u1 u2 u3 u4 k0 k1 k2 k3 k4 : Int32} : ¬ own_f6_3 lo hi u0 u1 u2 u3 u4 k0 k1 k2 k3 k4 = 0 := by unfold own_f6_3; split <;> (try split) <;> decide
theorem own_ef6_k4 (m : MethodId) (a1 : Addr) (a2 : Addr) (p3 : Int32) (p4 : Int32) : entryFrame m #[.ref a1, .ref a2, .int p3, .int p4, .int (4 : Int32)] 5 = mkF m 0 #[.val (.ref a1), .val (.ref a2), .val (.int p3), .val (.int p4), .val (.int (4 : Int32))] [] := by first | (simp [entryFrame, mkF, argsToLocals, Value.category]; done) | rfl

def own_f6_4 (p3 : Int32) (p4 : Int32) (u0 : Int32) (u1 : Int32) (u2 : Int32) (u3 : Int32) (u4 : Int32) (k0 : Int32) (k1 : Int32) (k2 : Int32) (k3 : Int32) (k4 : Int32) : Int32 := (if (4 : Int32) < p3 then (1 : Int32) else (if p4 < (4 : Int32) then (1 : Int32) else (1 : Int32)))
set_option maxRecDepth 65536 in
set_option maxHeartbeats 40000000 in
theorem rm6_4 (l : Launch) (Z : State) (a0 : Array Value) (hw : ∀ d ∈ tables_1, d.before a0 Z = true) (ws : List Jvm.Cond) (a1 : Addr) (a2 : Addr) (p3 : Int32) (p4 : Int32) (u0 : Int32) (u1 : Int32) (u2 : Int32) (u3 : Int32) (u4 : Int32) (k0 : Int32) (k1 : Int32) (k2 : Int32) (k3 : Int32) (k4 : Int32) (h0 : Heap) (V0p : own_A Z h0 a1 .int [.int u0, .int u1, .int u2, .int u3, .int u4]) (V1p : own_A Z h0 a2 .int [.int k0, .int k1, .int k2, .int k3, .int k4]) (hq : p3 ≤ 4 → 4 ≤ p4 → u4 = k4) :
    MetFree l (⟨"com/example/tourloom/tourloom/GeneticOperatorsOrderCrossoverPinLaw", "keptAt", "([I[IIII)Z"⟩ : MethodName) (head1 (Jvm.Cond.code (⟨"com/example/tourloom/tourloom/GeneticOperatorsOrderCrossoverPinLaw", "keptAt", "([I[IIII)Z"⟩ : MethodName) method_7_code 5 (some .boolean) :: ws) ({ frames := 0, cells := 0, slots := 0, locals := 0 } : Room)) (fun a U => a = #[.ref a1, .ref a2, .int p3, .int p4, .int (4 : Int32)] ∧ Z.Warmed39 U.vm ∧ U.heap = h0) (fun _ _ _ _ _ => True) (fun _ U o U' => ∃ v L, o = .returned v ∧ own_P (.int (own_f6_4 p3 p4 u0 u1 u2 u3 u4 k0 k1 k2 k3 k4)) h0 v U'.heap L ∧ FrameEnd U o U' L ({ frames := 0, cells := 0, slots := 0, locals := 0 } : Room).cells ({ frames := 0, cells := 0, slots := 0, locals := 0 } : Room).slots) := by
  refine MetFree.of_bodySF (plainFor_of_name own_pn0) hisR ?_
  intro p e s m args below meth c s₁ Bd hml0 hP hK
  obtain ⟨rfl, hZ, hh⟩ := hP
  have hx := Bd.exec
  have hby := Bd.bytes
  have hml : c.maxLocals = 5 := hml0
  have hown : s.vm.findClass "com/example/tourloom/tourloom/GeneticOperatorsOrderCrossoverPinLaw" = some m.cls := findClass_of_methodNamed Bd.named
  have hnm := (name_of_methodNamed Bd.named Bd.method).1
  have hlk : meth.locks = false := BodyLoose.notSynchronized Bd
  have X0 : Stand p l e ({ frames := 0, cells := 0, slots := 0, locals := 0 } : Room) s m #[.ref a1, .ref a2, .int p3, .int p4, .int (4 : Int32)] below meth c s₁ [] 0 0 := Stand.of_body Bd
  have e0 : s₁.heap = h0 := by rw [← hh, Bd.state]; rfl
  show own_Go p e below (own_E s 0 0 (own_P (.int (own_f6_4 p3 p4 u0 u1 u2 u3 u4 k0 k1 k2 k3 k4)) h0)) (s₁.setTop (entryFrame m #[.ref a1, .ref a2, .int p3, .int p4, .int (4 : Int32)] 5))
  rw [own_ef6_k4]
  refine own_iload X0 hx (hb hby own_d6_0) (q := 2) rfl rfl ?_
  refine own_iloadN X0 hx (hb hby own_d6_2) (q := 3) rfl rfl ?_
  refine own_icmpP X0 hx (hb hby own_d6_3) (cd := .lt) (x := (4 : Int32)) (y := p3) (pt := 23) (q := 6) (by decide) (by decide) rfl rfl (fun (c1 : (4 : Int32) < p3) => ?_) (fun (c1 : ¬ ((4 : Int32) < p3)) => ?_)
  · refine own_iconst X0 hx (v := (1 : Int32)) (hb hby own_d6_23) (q := 24) rfl rfl ?_
    refine own_goto X0 hx (hb hby own_d6_24) (q := 28) (by decide) (by decide) ?_
    refine own_retN X0 hx hlk (t := .boolean) (by simp) Bd.returns (hb hby own_d6_28) ?_ (by decide) (by decide)
    have r : own_f6_4 p3 p4 u0 u1 u2 u3 u4 k0 k1 k2 k3 k4 = (1 : Int32) := by rw [own_f6_4, if_pos c1]
    exact ⟨by rw [r] <;> rfl, e0, rfl⟩
  · refine own_iload X0 hx (hb hby own_d6_6) (q := 8) rfl rfl ?_
    refine own_iloadN X0 hx (hb hby own_d6_8) (q := 9) rfl rfl ?_
    refine own_icmpP X0 hx (hb hby own_d6_9) (cd := .gt) (x := (4 : Int32)) (y := p4) (pt := 23) (q := 12) (by decide) (by decide) rfl rfl (fun (c2 : p4 < (4 : Int32)) => ?_) (fun (c2 : ¬ (p4 < (4 : Int32))) => ?_)
    · refine own_iconst X0 hx (v := (1 : Int32)) (hb hby own_d6_23) (q := 24) rfl rfl ?_
      refine own_goto X0 hx (hb hby own_d6_24) (q := 28) (by decide) (by decide) ?_
      refine own_retN X0 hx hlk (t := .boolean) (by simp) Bd.returns (hb hby own_d6_28) ?_ (by decide) (by decide)
      have r : own_f6_4 p3 p4 u0 u1 u2 u3 u4 k0 k1 k2 k3 k4 = (1 : Int32) := by rw [own_f6_4, if_neg c1, if_pos c2]
      exact ⟨by rw [r] <;> rfl, e0, rfl⟩
    · refine own_aloadN X0 hx (hb hby own_d6_12) (q := 13) rfl rfl rfl ?_
      refine own_iload X0 hx (hb hby own_d6_13) (q := 15) rfl rfl ?_
      refine own_iaload X0 hx hZ (i := 4) (v := .int u4) e0 V0p (by decide) (by decide) rfl (hb hby own_d6_15) (q := 16) rfl ?_
      refine own_aloadN X0 hx (hb hby own_d6_16) (q := 17) rfl rfl rfl ?_
      refine own_iload X0 hx (hb hby own_d6_17) (q := 19) rfl rfl ?_
      refine own_iaload X0 hx hZ (i := 4) (v := .int k4) e0 V1p (by decide) (by decide) rfl (hb hby own_d6_19) (q := 20) rfl ?_
      refine own_icmpM X0 hx (hb hby own_d6_20) (cd := .ne) (x := u4) (y := k4) (pt := 27) (q := 23) (by decide) (by decide) rfl rfl (fun h => False.elim (h ((hq (Int32.not_lt.mp c1) (Int32.not_lt.mp c2)) : u4 = k4))) (fun _ => ?_)
      refine own_iconst X0 hx (v := (1 : Int32)) (hb hby own_d6_23) (q := 24) rfl rfl ?_
      refine own_goto X0 hx (hb hby own_d6_24) (q := 28) (by decide) (by decide) ?_
      refine own_retN X0 hx hlk (t := .boolean) (by simp) Bd.returns (hb hby own_d6_28) ?_ (by decide) (by decide)
      have r : own_f6_4 p3 p4 u0 u1 u2 u3 u4 k0 k1 k2 k3 k4 = (1 : Int32) := by rw [own_f6_4, if_neg c1, if_neg c2]
      exact ⟨by rw [r] <;> rfl, e0, rfl⟩
theorem own_ka4 {lo hi u0 u1 u2 u3 u4 k0 k1 k2 k3 k4 : Int32} : ¬ own_f6_4 lo hi u0 u1 u2 u3 u4 k0 k1 k2 k3 k4 = 0 := by unfold own_f6_4; split <;> (try split) <;> decide
theorem own_ef8 (m : MethodId) (a1 : Addr) (p2 : Int32) (p3 : Int32) : entryFrame m #[.ref a1, .int p2, .int p3] 3 = mkF m 0 #[.val (.ref a1), .val (.int p2), .val (.int p3)] [] := by first | (simp [entryFrame, mkF, argsToLocals, Value.category]; done) | rfl
theorem own_d8_0 : decode method_8_code 0 = .ok (.aload_n 0, 1) := by decide +kernel
theorem own_d8_1 : decode method_8_code 1 = .ok (.iload_n 1, 1) := by decide +kernel
theorem own_d8_2 : decode method_8_code 2 = .ok (.iaload, 1) := by decide +kernel
theorem own_d8_3 : decode method_8_code 3 = .ok (.iload_n 2, 1) := by decide +kernel
theorem own_d8_4 : decode method_8_code 4 = .ok (.isub, 1) := by decide +kernel
theorem own_d8_5 : decode method_8_code 5 = .ok (.iconst 1, 1) := by decide +kernel
theorem own_d8_6 : decode method_8_code 6 = .ok (.isub, 1) := by decide +kernel
theorem own_d8_7 : decode method_8_code 7 = .ok (.bipush 10, 2) := by decide +kernel
theorem own_d8_9 : decode method_8_code 9 = .ok (.iadd, 1) := by decide +kernel
theorem own_d8_10 : decode method_8_code 10 = .ok (.iconst 5, 1) := by decide +kernel
theorem own_d8_11 : decode method_8_code 11 = .ok (.irem, 1) := by decide +kernel
theorem own_d8_12 : decode method_8_code 12 = .ok (.ireturn, 1) := by decide +kernel
def own_f8 (p2 : Int32) (p3 : Int32) (i0 : Int32) (i1 : Int32) (i2 : Int32) (i3 : Int32) (i4 : Int32) : Int32 := ((((own_z_cat i0 i1 i2 i3 i4 p2) - p3) - (1 : Int32)) + (10 : Int32)) % (5 : Int32)
set_option maxRecDepth 65536 in
set_option maxHeartbeats 40000000 in
theorem rm8 (l : Launch) (Z : State) (a0 : Array Value) (hw : ∀ d ∈ tables_1, d.before a0 Z = true) (ws : List Jvm.Cond) (a1 : Addr) (p2 : Int32) (p3 : Int32) (i0 : Int32) (i1 : Int32) (i2 : Int32) (i3 : Int32) (i4 : Int32) (h0 : Heap) (V0p : own_A Z h0 a1 .int [.int i0, .int i1, .int i2, .int i3, .int i4]) (hr : own_z_r5 p2) :
    MetFree l (⟨"com/example/tourloom/tourloom/GeneticOperatorsOrderCrossoverPinLaw", "offset", "([III)I"⟩ : MethodName) (head1 (Jvm.Cond.code (⟨"com/example/tourloom/tourloom/GeneticOperatorsOrderCrossoverPinLaw", "offset", "([III)I"⟩ : MethodName) method_8_code 3 (some .int) :: ws) ({ frames := 0, cells := 0, slots := 0, locals := 0 } : Room)) (fun a U => a = #[.ref a1, .int p2, .int p3] ∧ Z.Warmed39 U.vm ∧ U.heap = h0) (fun _ _ _ _ _ => True) (fun _ U o U' => ∃ v L, o = .returned v ∧ own_P (.int (own_f8 p2 p3 i0 i1 i2 i3 i4)) h0 v U'.heap L ∧ FrameEnd U o U' L ({ frames := 0, cells := 0, slots := 0, locals := 0 } : Room).cells ({ frames := 0, cells := 0, slots := 0, locals := 0 } : Room).slots) := by
  refine MetFree.of_bodySF (plainFor_of_name own_pn0) hisR ?_
  intro p e s m args below meth c s₁ Bd hml0 hP hK
  obtain ⟨rfl, hZ, hh⟩ := hP
  have hx := Bd.exec
  have hby := Bd.bytes
  have hml : c.maxLocals = 3 := hml0
  have hown : s.vm.findClass "com/example/tourloom/tourloom/GeneticOperatorsOrderCrossoverPinLaw" = some m.cls := findClass_of_methodNamed Bd.named
  have hnm := (name_of_methodNamed Bd.named Bd.method).1
  have hlk : meth.locks = false := BodyLoose.notSynchronized Bd
  have X0 : Stand p l e ({ frames := 0, cells := 0, slots := 0, locals := 0 } : Room) s m #[.ref a1, .int p2, .int p3] below meth c s₁ [] 0 0 := Stand.of_body Bd
  have e0 : s₁.heap = h0 := by rw [← hh, Bd.state]; rfl
  show own_Go p e below (own_E s 0 0 (own_P (.int (own_f8 p2 p3 i0 i1 i2 i3 i4)) h0)) (s₁.setTop (entryFrame m #[.ref a1, .int p2, .int p3] 3))
  rw [own_ef8]
  refine own_aloadN X0 hx (hb hby own_d8_0) (q := 1) rfl rfl rfl ?_
  refine own_iloadN X0 hx (hb hby own_d8_1) (q := 2) rfl rfl ?_
  refine own_iaload X0 hx hZ (i := (p2).toNatClampNeg) (v := .int (own_z_cat i0 i1 i2 i3 i4 p2)) e0 V0p (own_nn5 hr) rfl (own_cat5V hr) (hb hby own_d8_2) (q := 3) rfl ?_
  refine own_iloadN X0 hx (hb hby own_d8_3) (q := 4) rfl rfl ?_
  refine own_isub X0 hx (hb hby own_d8_4) (q := 5) rfl ?_
  refine own_iconst X0 hx (v := (1 : Int32)) (hb hby own_d8_5) (q := 6) rfl rfl ?_
  refine own_isub X0 hx (hb hby own_d8_6) (q := 7) rfl ?_
  refine own_bipush X0 hx (v := (10 : Int32)) (hb hby own_d8_7) (q := 9) rfl rfl ?_
  refine own_iadd X0 hx (hb hby own_d8_9) (q := 10) rfl ?_
  refine own_iconst X0 hx (v := (5 : Int32)) (hb hby own_d8_10) (q := 11) rfl rfl ?_
  refine own_irem X0 hx (hb hby own_d8_11) (q := 12) rfl (by decide) ?_
  refine own_retI X0 hx hlk Bd.returns (hb hby own_d8_12) ?_ (by decide) (by decide)
  have r : own_f8 p2 p3 i0 i1 i2 i3 i4 = ((((own_z_cat i0 i1 i2 i3 i4 p2) - p3) - (1 : Int32)) + (10 : Int32)) % (5 : Int32) := by rw [own_f8]
  exact ⟨by rw [r] <;> rfl, e0, rfl⟩
theorem own_pd2 : parseMethodDescriptor "([III)I" = some ⟨[(.array .int), .int, .int], some .int⟩ := by decide +kernel
theorem own_ef7_k0 (m : MethodId) (a1 : Addr) (a2 : Addr) (p3 : Int32) (p4 : Int32) : entryFrame m #[.ref a1, .ref a2, .int p3, .int p4, .int (0 : Int32)] 7 = mkF m 0 #[.val (.ref a1), .val (.ref a2), .val (.int p3), .val (.int p4), .val (.int (0 : Int32)), .unset, .unset] [] := by first | (simp [entryFrame, mkF, argsToLocals, Value.category]; done) | rfl
theorem own_d7_0 : decode method_9_code 0 = .ok (.iload 4, 2) := by decide +kernel
theorem own_d7_2 : decode method_9_code 2 = .ok (.iconst 1, 1) := by decide +kernel
theorem own_d7_3 : decode method_9_code 3 = .ok (.iadd, 1) := by decide +kernel
theorem own_d7_4 : decode method_9_code 4 = .ok (.iload_n 3, 1) := by decide +kernel
theorem own_d7_5 : decode method_9_code 5 = .ok (.if_icmp .lt 5, 3) := by decide +kernel
theorem own_d7_8 : decode method_9_code 8 = .ok (.iconst 1, 1) := by decide +kernel
theorem own_d7_9 : decode method_9_code 9 = .ok (.ireturn, 1) := by decide +kernel
theorem own_d7_10 : decode method_9_code 10 = .ok (.iload_n 2, 1) := by decide +kernel
theorem own_d7_11 : decode method_9_code 11 = .ok (.iconst 1, 1) := by decide +kernel
theorem own_d7_12 : decode method_9_code 12 = .ok (.iadd, 1) := by decide +kernel
theorem own_d7_13 : decode method_9_code 13 = .ok (.iload 4, 2) := by decide +kernel
theorem own_d7_15 : decode method_9_code 15 = .ok (.iadd, 1) := by decide +kernel
theorem own_d7_16 : decode method_9_code 16 = .ok (.iconst 5, 1) := by decide +kernel
theorem own_d7_17 : decode method_9_code 17 = .ok (.irem, 1) := by decide +kernel
theorem own_d7_18 : decode method_9_code 18 = .ok (.istore 5, 2) := by decide +kernel
theorem own_d7_20 : decode method_9_code 20 = .ok (.iload_n 2, 1) := by decide +kernel
theorem own_d7_21 : decode method_9_code 21 = .ok (.iconst 2, 1) := by decide +kernel
theorem own_d7_22 : decode method_9_code 22 = .ok (.iadd, 1) := by decide +kernel
theorem own_d7_23 : decode method_9_code 23 = .ok (.iload 4, 2) := by decide +kernel
theorem own_d7_25 : decode method_9_code 25 = .ok (.iadd, 1) := by decide +kernel
theorem own_d7_26 : decode method_9_code 26 = .ok (.iconst 5, 1) := by decide +kernel
theorem own_d7_27 : decode method_9_code 27 = .ok (.irem, 1) := by decide +kernel
theorem own_d7_28 : decode method_9_code 28 = .ok (.istore 6, 2) := by decide +kernel
theorem own_d7_30 : decode method_9_code 30 = .ok (.aload_n 1, 1) := by decide +kernel
theorem own_d7_31 : decode method_9_code 31 = .ok (.aload_n 0, 1) := by decide +kernel
theorem own_d7_32 : decode method_9_code 32 = .ok (.iload 5, 2) := by decide +kernel
theorem own_d7_34 : decode method_9_code 34 = .ok (.iaload, 1) := by decide +kernel
theorem own_d7_35 : decode method_9_code 35 = .ok (.iload_n 2, 1) := by decide +kernel
theorem own_d7_36 : decode method_9_code 36 = .ok (.invokestatic 39, 3) := by decide +kernel
theorem own_d7_39 : decode method_9_code 39 = .ok (.aload_n 1, 1) := by decide +kernel
theorem own_d7_40 : decode method_9_code 40 = .ok (.aload_n 0, 1) := by decide +kernel
theorem own_d7_41 : decode method_9_code 41 = .ok (.iload 6, 2) := by decide +kernel
theorem own_d7_43 : decode method_9_code 43 = .ok (.iaload, 1) := by decide +kernel
theorem own_d7_44 : decode method_9_code 44 = .ok (.iload_n 2, 1) := by decide +kernel
theorem own_d7_45 : decode method_9_code 45 = .ok (.invokestatic 39, 3) := by decide +kernel
theorem own_d7_48 : decode method_9_code 48 = .ok (.if_icmp .ge 7, 3) := by decide +kernel
theorem own_d7_51 : decode method_9_code 51 = .ok (.iconst 1, 1) := by decide +kernel
theorem own_d7_52 : decode method_9_code 52 = .ok (.goto 4, 3) := by decide +kernel
theorem own_d7_56 : decode method_9_code 56 = .ok (.ireturn, 1) := by decide +kernel
def own_f7_0 (p3 : Int32) (p4 : Int32) (u0 : Int32) (u1 : Int32) (u2 : Int32) (u3 : Int32) (u4 : Int32) (i0 : Int32) (i1 : Int32) (i2 : Int32) (i3 : Int32) (i4 : Int32) : Int32 := (if (1 : Int32) < p4 then (1 : Int32) else (1 : Int32))
set_option maxRecDepth 65536 in
set_option maxHeartbeats 40000000 in
theorem rm7_0 (l : Launch) (Z : State) (a0 : Array Value) (hw : ∀ d ∈ tables_1, d.before a0 Z = true) (ws : List Jvm.Cond) (a1 : Addr) (a2 : Addr) (p3 : Int32) (p4 : Int32) (u0 : Int32) (u1 : Int32) (u2 : Int32) (u3 : Int32) (u4 : Int32) (i0 : Int32) (i1 : Int32) (i2 : Int32) (i3 : Int32) (i4 : Int32) (h0 : Heap) (V0p : own_A Z h0 a1 .int [.int u0, .int u1, .int u2, .int u3, .int u4]) (V1p : own_A Z h0 a2 .int [.int i0, .int i1, .int i2, .int i3, .int i4]) (h1 : own_z_r5 ((p3 + 1 + 0) % 5)) (h2 : own_z_r5 ((p3 + 2 + 0) % 5)) (hP : own_z_P u0 u1 u2 u3 u4) (hlt : (1 : Int32) < p4 → own_z_off (own_z_cat i0 i1 i2 i3 i4 (own_z_cat u0 u1 u2 u3 u4 ((p3 + 1 + 0) % 5))) p3 < own_z_off (own_z_cat i0 i1 i2 i3 i4 (own_z_cat u0 u1 u2 u3 u4 ((p3 + 2 + 0) % 5))) p3) :
    MetFree l (⟨"com/example/tourloom/tourloom/GeneticOperatorsOrderCrossoverPinLaw", "inOrder", "([I[IIII)Z"⟩ : MethodName) (head1 (Jvm.Cond.code (⟨"com/example/tourloom/tourloom/GeneticOperatorsOrderCrossoverPinLaw", "inOrder", "([I[IIII)Z"⟩ : MethodName) method_9_code 7 (some .boolean) :: ws) ({ frames := 1, cells := 0, slots := 0, locals := 15 } : Room)) (fun a U => a = #[.ref a1, .ref a2, .int p3, .int p4, .int (0 : Int32)] ∧ Z.Warmed39 U.vm ∧ U.heap = h0) (fun _ _ _ _ _ => True) (fun _ U o U' => ∃ v L, o = .returned v ∧ own_P (.int (own_f7_0 p3 p4 u0 u1 u2 u3 u4 i0 i1 i2 i3 i4)) h0 v U'.heap L ∧ FrameEnd U o U' L ({ frames := 1, cells := 0, slots := 0, locals := 15 } : Room).cells ({ frames := 1, cells := 0, slots := 0, locals := 15 } : Room).slots) := by
  refine MetFree.of_bodySF (plainFor_of_name own_pn0) hisR ?_
  intro p e s m args below meth c s₁ Bd hml0 hP hK
  obtain ⟨rfl, hZ, hh⟩ := hP
  have hx := Bd.exec
  have hby := Bd.bytes
  have hml : c.maxLocals = 7 := hml0
  have hown : s.vm.findClass "com/example/tourloom/tourloom/GeneticOperatorsOrderCrossoverPinLaw" = some m.cls := findClass_of_methodNamed Bd.named
  have hnm := (name_of_methodNamed Bd.named Bd.method).1
  have hlk : meth.locks = false := BodyLoose.notSynchronized Bd
  have X0 : Stand p l e ({ frames := 1, cells := 0, slots := 0, locals := 15 } : Room) s m #[.ref a1, .ref a2, .int p3, .int p4, .int (0 : Int32)] below meth c s₁ [] 0 0 := Stand.of_body Bd
  have e0 : s₁.heap = h0 := by rw [← hh, Bd.state]; rfl
  show own_Go p e below (own_E s 0 0 (own_P (.int (own_f7_0 p3 p4 u0 u1 u2 u3 u4 i0 i1 i2 i3 i4)) h0)) (s₁.setTop (entryFrame m #[.ref a1, .ref a2, .int p3, .int p4, .int (0 : Int32)] 7))
  rw [own_ef7_k0]
  refine own_iload X0 hx (hb hby own_d7_0) (q := 2) rfl rfl ?_
  refine own_iconst X0 hx (v := (1 : Int32)) (hb hby own_d7_2) (q := 3) rfl rfl ?_
  refine own_iadd X0 hx (hb hby own_d7_3) (q := 4) rfl ?_
  rw [show ((0 : Int32) + (1 : Int32) : Int32) = (1 : Int32) from by decide]
  refine own_iloadN X0 hx (hb hby own_d7_4) (q := 5) rfl rfl ?_
  refine own_icmpP X0 hx (hb hby own_d7_5) (cd := .lt) (x := (1 : Int32)) (y := p4) (pt := 10) (q := 8) (by decide) (by decide) rfl rfl (fun (c1 : (1 : Int32) < p4) => ?_) (fun (c1 : ¬ ((1 : Int32) < p4)) => ?_)
  · refine own_iloadN X0 hx (hb hby own_d7_10) (q := 11) rfl rfl ?_
    refine own_iconst X0 hx (v := (1 : Int32)) (hb hby own_d7_11) (q := 12) rfl rfl ?_
    refine own_iadd X0 hx (hb hby own_d7_12) (q := 13) rfl ?_
    refine own_iload X0 hx (hb hby own_d7_13) (q := 15) rfl rfl ?_
    refine own_iadd X0 hx (hb hby own_d7_15) (q := 16) rfl ?_
    refine own_iconst X0 hx (v := (5 : Int32)) (hb hby own_d7_16) (q := 17) rfl rfl ?_
    refine own_irem X0 hx (hb hby own_d7_17) (q := 18) rfl (by decide) ?_
    refine own_istore (L' := #[.val (.ref a1), .val (.ref a2), .val (.int p3), .val (.int p4), .val (.int (0 : Int32)), .val (.int (((p3 + (1 : Int32)) + (0 : Int32)) % (5 : Int32))), .unset]) X0 hx (hb hby own_d7_18) (q := 20) rfl rfl ?_
    refine own_iloadN X0 hx (hb hby own_d7_20) (q := 21) rfl rfl ?_
    refine own_iconst X0 hx (v := (2 : Int32)) (hb hby own_d7_21) (q := 22) rfl rfl ?_
    refine own_iadd X0 hx (hb hby own_d7_22) (q := 23) rfl ?_
    refine own_iload X0 hx (hb hby own_d7_23) (q := 25) rfl rfl ?_
    refine own_iadd X0 hx (hb hby own_d7_25) (q := 26) rfl ?_
    refine own_iconst X0 hx (v := (5 : Int32)) (hb hby own_d7_26) (q := 27) rfl rfl ?_
    refine own_irem X0 hx (hb hby own_d7_27) (q := 28) rfl (by decide) ?_
    refine own_istore (L' := #[.val (.ref a1), .val (.ref a2), .val (.int p3), .val (.int p4), .val (.int (0 : Int32)), .val (.int (((p3 + (1 : Int32)) + (0 : Int32)) % (5 : Int32))), .val (.int (((p3 + (2 : Int32)) + (0 : Int32)) % (5 : Int32)))]) X0 hx (hb hby own_d7_28) (q := 30) rfl rfl ?_
    refine own_aloadN X0 hx (hb hby own_d7_30) (q := 31) rfl rfl rfl ?_
    refine own_aloadN X0 hx (hb hby own_d7_31) (q := 32) rfl rfl rfl ?_
    refine own_iload X0 hx (hb hby own_d7_32) (q := 34) rfl rfl ?_
    refine own_iaload X0 hx hZ (i := (((p3 + (1 : Int32)) + (0 : Int32)) % (5 : Int32)).toNatClampNeg) (v := .int (own_z_cat u0 u1 u2 u3 u4 (((p3 + (1 : Int32)) + (0 : Int32)) % (5 : Int32)))) e0 V0p (own_nn5 h1) rfl (own_cat5V h1) (hb hby own_d7_34) (q := 35) rfl ?_
    refine own_iloadN X0 hx (hb hby own_d7_35) (q := 36) rfl rfl ?_
    refine own_callSP X0 hx hZ hown (hw _ (List.mem_of_getElem? (i := 26) rfl)) (hw _ (List.mem_of_getElem? (i := 27) rfl)) (hw _ (List.mem_of_getElem? (i := 2) rfl)) (hw _ (List.mem_of_getElem? (i := 28) rfl)) (by decide) (rm8 l Z a0 hw [] a2 (own_z_cat u0 u1 u2 u3 u4 (((p3 + (1 : Int32)) + (0 : Int32)) % (5 : Int32))) p3 i0 i1 i2 i3 i4 h0 V1p (own_z_cr hP h1)) own_pd2 rfl e0 (by rw [hml]; rfl) (argsL := [.ref a2, .int (own_z_cat u0 u1 u2 u3 u4 (((p3 + (1 : Int32)) + (0 : Int32)) % (5 : Int32))), .int p3]) (st := []) rfl (W := 0) (Nat.le_of_eq rfl) (by decide) (by decide) (by decide) (by decide) (hb hby own_d7_36) (q := 39) rfl (fun T616 X617 e618 => ?_)
    refine own_aloadN X617 hx (hb hby own_d7_39) (q := 40) rfl rfl rfl ?_
    refine own_aloadN X617 hx (hb hby own_d7_40) (q := 41) rfl rfl rfl ?_
    refine own_iload X617 hx (hb hby own_d7_41) (q := 43) rfl rfl ?_
    refine own_iaload X617 hx hZ (i := (((p3 + (2 : Int32)) + (0 : Int32)) % (5 : Int32)).toNatClampNeg) (v := .int (own_z_cat u0 u1 u2 u3 u4 (((p3 + (2 : Int32)) + (0 : Int32)) % (5 : Int32)))) e618 V0p (own_nn5 h2) rfl (own_cat5V h2) (hb hby own_d7_43) (q := 44) rfl ?_
    refine own_iloadN X617 hx (hb hby own_d7_44) (q := 45) rfl rfl ?_
    refine own_callSP X617 hx hZ hown (hw _ (List.mem_of_getElem? (i := 26) rfl)) (hw _ (List.mem_of_getElem? (i := 27) rfl)) (hw _ (List.mem_of_getElem? (i := 2) rfl)) (hw _ (List.mem_of_getElem? (i := 28) rfl)) (by decide) (rm8 l Z a0 hw [] a2 (own_z_cat u0 u1 u2 u3 u4 (((p3 + (2 : Int32)) + (0 : Int32)) % (5 : Int32))) p3 i0 i1 i2 i3 i4 h0 V1p (own_z_cr hP h2)) own_pd2 rfl e618 (by rw [hml]; rfl) (argsL := [.ref a2, .int (own_z_cat u0 u1 u2 u3 u4 (((p3 + (2 : Int32)) + (0 : Int32)) % (5 : Int32))), .int p3]) (st := [.int (own_f8 (own_z_cat u0 u1 u2 u3 u4 (((p3 + (1 : Int32)) + (0 : Int32)) % (5 : Int32))) p3 i0 i1 i2 i3 i4)]) rfl (W := 1) (Nat.le_of_eq rfl) (by decide) (by decide) (by decide) (by decide) (hb hby own_d7_45) (q := 48) rfl (fun T619 X620 e621 => ?_)
    refine own_icmpM X620 hx (hb hby own_d7_48) (cd := .ge) (x := own_f8 (own_z_cat u0 u1 u2 u3 u4 (((p3 + (1 : Int32)) + (0 : Int32)) % (5 : Int32))) p3 i0 i1 i2 i3 i4) (y := own_f8 (own_z_cat u0 u1 u2 u3 u4 (((p3 + (2 : Int32)) + (0 : Int32)) % (5 : Int32))) p3 i0 i1 i2 i3 i4) (pt := 55) (q := 51) (by decide) (by decide) rfl rfl (fun h => False.elim (h ((hlt c1) : (own_f8 (own_z_cat u0 u1 u2 u3 u4 (((p3 + (1 : Int32)) + (0 : Int32)) % (5 : Int32))) p3 i0 i1 i2 i3 i4) < (own_f8 (own_z_cat u0 u1 u2 u3 u4 (((p3 + (2 : Int32)) + (0 : Int32)) % (5 : Int32))) p3 i0 i1 i2 i3 i4)))) (fun _ => ?_)
    refine own_iconst X620 hx (v := (1 : Int32)) (hb hby own_d7_51) (q := 52) rfl rfl ?_
    refine own_goto X620 hx (hb hby own_d7_52) (q := 56) (by decide) (by decide) ?_
    refine own_retN X620 hx hlk (t := .boolean) (by simp) Bd.returns (hb hby own_d7_56) ?_ (by decide) (by decide)
    have r : own_f7_0 p3 p4 u0 u1 u2 u3 u4 i0 i1 i2 i3 i4 = (1 : Int32) := by rw [own_f7_0, if_pos c1]
    exact ⟨by rw [r] <;> rfl, e621, rfl⟩
  · refine own_iconst X0 hx (v := (1 : Int32)) (hb hby own_d7_8) (q := 9) rfl rfl ?_
    refine own_retN X0 hx hlk (t := .boolean) (by simp) Bd.returns (hb hby own_d7_9) ?_ (by decide) (by decide)
    have r : own_f7_0 p3 p4 u0 u1 u2 u3 u4 i0 i1 i2 i3 i4 = (1 : Int32) := by rw [own_f7_0, if_neg c1]
    exact ⟨by rw [r] <;> rfl, e0, rfl⟩
theorem own_io0 {hi m u0 u1 u2 u3 u4 i0 i1 i2 i3 i4 : Int32} : ¬ own_f7_0 hi m u0 u1 u2 u3 u4 i0 i1 i2 i3 i4 = 0 := by unfold own_f7_0; split <;> decide
theorem own_ef7_k1 (m : MethodId) (a1 : Addr) (a2 : Addr) (p3 : Int32) (p4 : Int32) : entryFrame m #[.ref a1, .ref a2, .int p3, .int p4, .int (1 : Int32)] 7 = mkF m 0 #[.val (.ref a1), .val (.ref a2), .val (.int p3), .val (.int p4), .val (.int (1 : Int32)), .unset, .unset] [] := by first | (simp [entryFrame, mkF, argsToLocals, Value.category]; done) | rfl

def own_f7_1 (p3 : Int32) (p4 : Int32) (u0 : Int32) (u1 : Int32) (u2 : Int32) (u3 : Int32) (u4 : Int32) (i0 : Int32) (i1 : Int32) (i2 : Int32) (i3 : Int32) (i4 : Int32) : Int32 := (if (2 : Int32) < p4 then (1 : Int32) else (1 : Int32))
set_option maxRecDepth 65536 in
set_option maxHeartbeats 40000000 in
theorem rm7_1 (l : Launch) (Z : State) (a0 : Array Value) (hw : ∀ d ∈ tables_1, d.before a0 Z = true) (ws : List Jvm.Cond) (a1 : Addr) (a2 : Addr) (p3 : Int32) (p4 : Int32) (u0 : Int32) (u1 : Int32) (u2 : Int32) (u3 : Int32) (u4 : Int32) (i0 : Int32) (i1 : Int32) (i2 : Int32) (i3 : Int32) (i4 : Int32) (h0 : Heap) (V0p : own_A Z h0 a1 .int [.int u0, .int u1, .int u2, .int u3, .int u4]) (V1p : own_A Z h0 a2 .int [.int i0, .int i1, .int i2, .int i3, .int i4]) (h1 : own_z_r5 ((p3 + 1 + 1) % 5)) (h2 : own_z_r5 ((p3 + 2 + 1) % 5)) (hP : own_z_P u0 u1 u2 u3 u4) (hlt : (2 : Int32) < p4 → own_z_off (own_z_cat i0 i1 i2 i3 i4 (own_z_cat u0 u1 u2 u3 u4 ((p3 + 1 + 1) % 5))) p3 < own_z_off (own_z_cat i0 i1 i2 i3 i4 (own_z_cat u0 u1 u2 u3 u4 ((p3 + 2 + 1) % 5))) p3) :
    MetFree l (⟨"com/example/tourloom/tourloom/GeneticOperatorsOrderCrossoverPinLaw", "inOrder", "([I[IIII)Z"⟩ : MethodName) (head1 (Jvm.Cond.code (⟨"com/example/tourloom/tourloom/GeneticOperatorsOrderCrossoverPinLaw", "inOrder", "([I[IIII)Z"⟩ : MethodName) method_9_code 7 (some .boolean) :: ws) ({ frames := 1, cells := 0, slots := 0, locals := 15 } : Room)) (fun a U => a = #[.ref a1, .ref a2, .int p3, .int p4, .int (1 : Int32)] ∧ Z.Warmed39 U.vm ∧ U.heap = h0) (fun _ _ _ _ _ => True) (fun _ U o U' => ∃ v L, o = .returned v ∧ own_P (.int (own_f7_1 p3 p4 u0 u1 u2 u3 u4 i0 i1 i2 i3 i4)) h0 v U'.heap L ∧ FrameEnd U o U' L ({ frames := 1, cells := 0, slots := 0, locals := 15 } : Room).cells ({ frames := 1, cells := 0, slots := 0, locals := 15 } : Room).slots) := by
  refine MetFree.of_bodySF (plainFor_of_name own_pn0) hisR ?_
  intro p e s m args below meth c s₁ Bd hml0 hP hK
  obtain ⟨rfl, hZ, hh⟩ := hP
  have hx := Bd.exec
  have hby := Bd.bytes
  have hml : c.maxLocals = 7 := hml0
  have hown : s.vm.findClass "com/example/tourloom/tourloom/GeneticOperatorsOrderCrossoverPinLaw" = some m.cls := findClass_of_methodNamed Bd.named
  have hnm := (name_of_methodNamed Bd.named Bd.method).1
  have hlk : meth.locks = false := BodyLoose.notSynchronized Bd
  have X0 : Stand p l e ({ frames := 1, cells := 0, slots := 0, locals := 15 } : Room) s m #[.ref a1, .ref a2, .int p3, .int p4, .int (1 : Int32)] below meth c s₁ [] 0 0 := Stand.of_body Bd
  have e0 : s₁.heap = h0 := by rw [← hh, Bd.state]; rfl
  show own_Go p e below (own_E s 0 0 (own_P (.int (own_f7_1 p3 p4 u0 u1 u2 u3 u4 i0 i1 i2 i3 i4)) h0)) (s₁.setTop (entryFrame m #[.ref a1, .ref a2, .int p3, .int p4, .int (1 : Int32)] 7))
  rw [own_ef7_k1]
  refine own_iload X0 hx (hb hby own_d7_0) (q := 2) rfl rfl ?_
  refine own_iconst X0 hx (v := (1 : Int32)) (hb hby own_d7_2) (q := 3) rfl rfl ?_
  refine own_iadd X0 hx (hb hby own_d7_3) (q := 4) rfl ?_
  rw [show ((1 : Int32) + (1 : Int32) : Int32) = (2 : Int32) from by decide]
  refine own_iloadN X0 hx (hb hby own_d7_4) (q := 5) rfl rfl ?_
  refine own_icmpP X0 hx (hb hby own_d7_5) (cd := .lt) (x := (2 : Int32)) (y := p4) (pt := 10) (q := 8) (by decide) (by decide) rfl rfl (fun (c1 : (2 : Int32) < p4) => ?_) (fun (c1 : ¬ ((2 : Int32) < p4)) => ?_)
  · refine own_iloadN X0 hx (hb hby own_d7_10) (q := 11) rfl rfl ?_
    refine own_iconst X0 hx (v := (1 : Int32)) (hb hby own_d7_11) (q := 12) rfl rfl ?_
    refine own_iadd X0 hx (hb hby own_d7_12) (q := 13) rfl ?_
    refine own_iload X0 hx (hb hby own_d7_13) (q := 15) rfl rfl ?_
    refine own_iadd X0 hx (hb hby own_d7_15) (q := 16) rfl ?_
    refine own_iconst X0 hx (v := (5 : Int32)) (hb hby own_d7_16) (q := 17) rfl rfl ?_
    refine own_irem X0 hx (hb hby own_d7_17) (q := 18) rfl (by decide) ?_
    refine own_istore (L' := #[.val (.ref a1), .val (.ref a2), .val (.int p3), .val (.int p4), .val (.int (1 : Int32)), .val (.int (((p3 + (1 : Int32)) + (1 : Int32)) % (5 : Int32))), .unset]) X0 hx (hb hby own_d7_18) (q := 20) rfl rfl ?_
    refine own_iloadN X0 hx (hb hby own_d7_20) (q := 21) rfl rfl ?_
    refine own_iconst X0 hx (v := (2 : Int32)) (hb hby own_d7_21) (q := 22) rfl rfl ?_
    refine own_iadd X0 hx (hb hby own_d7_22) (q := 23) rfl ?_
    refine own_iload X0 hx (hb hby own_d7_23) (q := 25) rfl rfl ?_
    refine own_iadd X0 hx (hb hby own_d7_25) (q := 26) rfl ?_
    refine own_iconst X0 hx (v := (5 : Int32)) (hb hby own_d7_26) (q := 27) rfl rfl ?_
    refine own_irem X0 hx (hb hby own_d7_27) (q := 28) rfl (by decide) ?_
    refine own_istore (L' := #[.val (.ref a1), .val (.ref a2), .val (.int p3), .val (.int p4), .val (.int (1 : Int32)), .val (.int (((p3 + (1 : Int32)) + (1 : Int32)) % (5 : Int32))), .val (.int (((p3 + (2 : Int32)) + (1 : Int32)) % (5 : Int32)))]) X0 hx (hb hby own_d7_28) (q := 30) rfl rfl ?_
    refine own_aloadN X0 hx (hb hby own_d7_30) (q := 31) rfl rfl rfl ?_
    refine own_aloadN X0 hx (hb hby own_d7_31) (q := 32) rfl rfl rfl ?_
    refine own_iload X0 hx (hb hby own_d7_32) (q := 34) rfl rfl ?_
    refine own_iaload X0 hx hZ (i := (((p3 + (1 : Int32)) + (1 : Int32)) % (5 : Int32)).toNatClampNeg) (v := .int (own_z_cat u0 u1 u2 u3 u4 (((p3 + (1 : Int32)) + (1 : Int32)) % (5 : Int32)))) e0 V0p (own_nn5 h1) rfl (own_cat5V h1) (hb hby own_d7_34) (q := 35) rfl ?_
    refine own_iloadN X0 hx (hb hby own_d7_35) (q := 36) rfl rfl ?_
    refine own_callSP X0 hx hZ hown (hw _ (List.mem_of_getElem? (i := 26) rfl)) (hw _ (List.mem_of_getElem? (i := 27) rfl)) (hw _ (List.mem_of_getElem? (i := 2) rfl)) (hw _ (List.mem_of_getElem? (i := 28) rfl)) (by decide) (rm8 l Z a0 hw [] a2 (own_z_cat u0 u1 u2 u3 u4 (((p3 + (1 : Int32)) + (1 : Int32)) % (5 : Int32))) p3 i0 i1 i2 i3 i4 h0 V1p (own_z_cr hP h1)) own_pd2 rfl e0 (by rw [hml]; rfl) (argsL := [.ref a2, .int (own_z_cat u0 u1 u2 u3 u4 (((p3 + (1 : Int32)) + (1 : Int32)) % (5 : Int32))), .int p3]) (st := []) rfl (W := 0) (Nat.le_of_eq rfl) (by decide) (by decide) (by decide) (by decide) (hb hby own_d7_36) (q := 39) rfl (fun T622 X623 e624 => ?_)
    refine own_aloadN X623 hx (hb hby own_d7_39) (q := 40) rfl rfl rfl ?_
    refine own_aloadN X623 hx (hb hby own_d7_40) (q := 41) rfl rfl rfl ?_
    refine own_iload X623 hx (hb hby own_d7_41) (q := 43) rfl rfl ?_
    refine own_iaload X623 hx hZ (i := (((p3 + (2 : Int32)) + (1 : Int32)) % (5 : Int32)).toNatClampNeg) (v := .int (own_z_cat u0 u1 u2 u3 u4 (((p3 + (2 : Int32)) + (1 : Int32)) % (5 : Int32)))) e624 V0p (own_nn5 h2) rfl (own_cat5V h2) (hb hby own_d7_43) (q := 44) rfl ?_
    refine own_iloadN X623 hx (hb hby own_d7_44) (q := 45) rfl rfl ?_
    refine own_callSP X623 hx hZ hown (hw _ (List.mem_of_getElem? (i := 26) rfl)) (hw _ (List.mem_of_getElem? (i := 27) rfl)) (hw _ (List.mem_of_getElem? (i := 2) rfl)) (hw _ (List.mem_of_getElem? (i := 28) rfl)) (by decide) (rm8 l Z a0 hw [] a2 (own_z_cat u0 u1 u2 u3 u4 (((p3 + (2 : Int32)) + (1 : Int32)) % (5 : Int32))) p3 i0 i1 i2 i3 i4 h0 V1p (own_z_cr hP h2)) own_pd2 rfl e624 (by rw [hml]; rfl) (argsL := [.ref a2, .int (own_z_cat u0 u1 u2 u3 u4 (((p3 + (2 : Int32)) + (1 : Int32)) % (5 : Int32))), .int p3]) (st := [.int (own_f8 (own_z_cat u0 u1 u2 u3 u4 (((p3 + (1 : Int32)) + (1 : Int32)) % (5 : Int32))) p3 i0 i1 i2 i3 i4)]) rfl (W := 1) (Nat.le_of_eq rfl) (by decide) (by decide) (by decide) (by decide) (hb hby own_d7_45) (q := 48) rfl (fun T625 X626 e627 => ?_)
    refine own_icmpM X626 hx (hb hby own_d7_48) (cd := .ge) (x := own_f8 (own_z_cat u0 u1 u2 u3 u4 (((p3 + (1 : Int32)) + (1 : Int32)) % (5 : Int32))) p3 i0 i1 i2 i3 i4) (y := own_f8 (own_z_cat u0 u1 u2 u3 u4 (((p3 + (2 : Int32)) + (1 : Int32)) % (5 : Int32))) p3 i0 i1 i2 i3 i4) (pt := 55) (q := 51) (by decide) (by decide) rfl rfl (fun h => False.elim (h ((hlt c1) : (own_f8 (own_z_cat u0 u1 u2 u3 u4 (((p3 + (1 : Int32)) + (1 : Int32)) % (5 : Int32))) p3 i0 i1 i2 i3 i4) < (own_f8 (own_z_cat u0 u1 u2 u3 u4 (((p3 + (2 : Int32)) + (1 : Int32)) % (5 : Int32))) p3 i0 i1 i2 i3 i4)))) (fun _ => ?_)
    refine own_iconst X626 hx (v := (1 : Int32)) (hb hby own_d7_51) (q := 52) rfl rfl ?_
    refine own_goto X626 hx (hb hby own_d7_52) (q := 56) (by decide) (by decide) ?_
    refine own_retN X626 hx hlk (t := .boolean) (by simp) Bd.returns (hb hby own_d7_56) ?_ (by decide) (by decide)
    have r : own_f7_1 p3 p4 u0 u1 u2 u3 u4 i0 i1 i2 i3 i4 = (1 : Int32) := by rw [own_f7_1, if_pos c1]
    exact ⟨by rw [r] <;> rfl, e627, rfl⟩
  · refine own_iconst X0 hx (v := (1 : Int32)) (hb hby own_d7_8) (q := 9) rfl rfl ?_
    refine own_retN X0 hx hlk (t := .boolean) (by simp) Bd.returns (hb hby own_d7_9) ?_ (by decide) (by decide)
    have r : own_f7_1 p3 p4 u0 u1 u2 u3 u4 i0 i1 i2 i3 i4 = (1 : Int32) := by rw [own_f7_1, if_neg c1]
    exact ⟨by rw [r] <;> rfl, e0, rfl⟩
theorem own_io1 {hi m u0 u1 u2 u3 u4 i0 i1 i2 i3 i4 : Int32} : ¬ own_f7_1 hi m u0 u1 u2 u3 u4 i0 i1 i2 i3 i4 = 0 := by unfold own_f7_1; split <;> decide
theorem own_ef7_k2 (m : MethodId) (a1 : Addr) (a2 : Addr) (p3 : Int32) (p4 : Int32) : entryFrame m #[.ref a1, .ref a2, .int p3, .int p4, .int (2 : Int32)] 7 = mkF m 0 #[.val (.ref a1), .val (.ref a2), .val (.int p3), .val (.int p4), .val (.int (2 : Int32)), .unset, .unset] [] := by first | (simp [entryFrame, mkF, argsToLocals, Value.category]; done) | rfl

def own_f7_2 (p3 : Int32) (p4 : Int32) (u0 : Int32) (u1 : Int32) (u2 : Int32) (u3 : Int32) (u4 : Int32) (i0 : Int32) (i1 : Int32) (i2 : Int32) (i3 : Int32) (i4 : Int32) : Int32 := (if (3 : Int32) < p4 then (1 : Int32) else (1 : Int32))
set_option maxRecDepth 65536 in
set_option maxHeartbeats 40000000 in
theorem rm7_2 (l : Launch) (Z : State) (a0 : Array Value) (hw : ∀ d ∈ tables_1, d.before a0 Z = true) (ws : List Jvm.Cond) (a1 : Addr) (a2 : Addr) (p3 : Int32) (p4 : Int32) (u0 : Int32) (u1 : Int32) (u2 : Int32) (u3 : Int32) (u4 : Int32) (i0 : Int32) (i1 : Int32) (i2 : Int32) (i3 : Int32) (i4 : Int32) (h0 : Heap) (V0p : own_A Z h0 a1 .int [.int u0, .int u1, .int u2, .int u3, .int u4]) (V1p : own_A Z h0 a2 .int [.int i0, .int i1, .int i2, .int i3, .int i4]) (h1 : own_z_r5 ((p3 + 1 + 2) % 5)) (h2 : own_z_r5 ((p3 + 2 + 2) % 5)) (hP : own_z_P u0 u1 u2 u3 u4) (hlt : (3 : Int32) < p4 → own_z_off (own_z_cat i0 i1 i2 i3 i4 (own_z_cat u0 u1 u2 u3 u4 ((p3 + 1 + 2) % 5))) p3 < own_z_off (own_z_cat i0 i1 i2 i3 i4 (own_z_cat u0 u1 u2 u3 u4 ((p3 + 2 + 2) % 5))) p3) :
    MetFree l (⟨"com/example/tourloom/tourloom/GeneticOperatorsOrderCrossoverPinLaw", "inOrder", "([I[IIII)Z"⟩ : MethodName) (head1 (Jvm.Cond.code (⟨"com/example/tourloom/tourloom/GeneticOperatorsOrderCrossoverPinLaw", "inOrder", "([I[IIII)Z"⟩ : MethodName) method_9_code 7 (some .boolean) :: ws) ({ frames := 1, cells := 0, slots := 0, locals := 15 } : Room)) (fun a U => a = #[.ref a1, .ref a2, .int p3, .int p4, .int (2 : Int32)] ∧ Z.Warmed39 U.vm ∧ U.heap = h0) (fun _ _ _ _ _ => True) (fun _ U o U' => ∃ v L, o = .returned v ∧ own_P (.int (own_f7_2 p3 p4 u0 u1 u2 u3 u4 i0 i1 i2 i3 i4)) h0 v U'.heap L ∧ FrameEnd U o U' L ({ frames := 1, cells := 0, slots := 0, locals := 15 } : Room).cells ({ frames := 1, cells := 0, slots := 0, locals := 15 } : Room).slots) := by
  refine MetFree.of_bodySF (plainFor_of_name own_pn0) hisR ?_
  intro p e s m args below meth c s₁ Bd hml0 hP hK
  obtain ⟨rfl, hZ, hh⟩ := hP
  have hx := Bd.exec
  have hby := Bd.bytes
  have hml : c.maxLocals = 7 := hml0
  have hown : s.vm.findClass "com/example/tourloom/tourloom/GeneticOperatorsOrderCrossoverPinLaw" = some m.cls := findClass_of_methodNamed Bd.named
  have hnm := (name_of_methodNamed Bd.named Bd.method).1
  have hlk : meth.locks = false := BodyLoose.notSynchronized Bd
  have X0 : Stand p l e ({ frames := 1, cells := 0, slots := 0, locals := 15 } : Room) s m #[.ref a1, .ref a2, .int p3, .int p4, .int (2 : Int32)] below meth c s₁ [] 0 0 := Stand.of_body Bd
  have e0 : s₁.heap = h0 := by rw [← hh, Bd.state]; rfl
  show own_Go p e below (own_E s 0 0 (own_P (.int (own_f7_2 p3 p4 u0 u1 u2 u3 u4 i0 i1 i2 i3 i4)) h0)) (s₁.setTop (entryFrame m #[.ref a1, .ref a2, .int p3, .int p4, .int (2 : Int32)] 7))
  rw [own_ef7_k2]
  refine own_iload X0 hx (hb hby own_d7_0) (q := 2) rfl rfl ?_
  refine own_iconst X0 hx (v := (1 : Int32)) (hb hby own_d7_2) (q := 3) rfl rfl ?_
  refine own_iadd X0 hx (hb hby own_d7_3) (q := 4) rfl ?_
  rw [show ((2 : Int32) + (1 : Int32) : Int32) = (3 : Int32) from by decide]
  refine own_iloadN X0 hx (hb hby own_d7_4) (q := 5) rfl rfl ?_
  refine own_icmpP X0 hx (hb hby own_d7_5) (cd := .lt) (x := (3 : Int32)) (y := p4) (pt := 10) (q := 8) (by decide) (by decide) rfl rfl (fun (c1 : (3 : Int32) < p4) => ?_) (fun (c1 : ¬ ((3 : Int32) < p4)) => ?_)
  · refine own_iloadN X0 hx (hb hby own_d7_10) (q := 11) rfl rfl ?_
    refine own_iconst X0 hx (v := (1 : Int32)) (hb hby own_d7_11) (q := 12) rfl rfl ?_
    refine own_iadd X0 hx (hb hby own_d7_12) (q := 13) rfl ?_
    refine own_iload X0 hx (hb hby own_d7_13) (q := 15) rfl rfl ?_
    refine own_iadd X0 hx (hb hby own_d7_15) (q := 16) rfl ?_
    refine own_iconst X0 hx (v := (5 : Int32)) (hb hby own_d7_16) (q := 17) rfl rfl ?_
    refine own_irem X0 hx (hb hby own_d7_17) (q := 18) rfl (by decide) ?_
    refine own_istore (L' := #[.val (.ref a1), .val (.ref a2), .val (.int p3), .val (.int p4), .val (.int (2 : Int32)), .val (.int (((p3 + (1 : Int32)) + (2 : Int32)) % (5 : Int32))), .unset]) X0 hx (hb hby own_d7_18) (q := 20) rfl rfl ?_
    refine own_iloadN X0 hx (hb hby own_d7_20) (q := 21) rfl rfl ?_
    refine own_iconst X0 hx (v := (2 : Int32)) (hb hby own_d7_21) (q := 22) rfl rfl ?_
    refine own_iadd X0 hx (hb hby own_d7_22) (q := 23) rfl ?_
    refine own_iload X0 hx (hb hby own_d7_23) (q := 25) rfl rfl ?_
    refine own_iadd X0 hx (hb hby own_d7_25) (q := 26) rfl ?_
    refine own_iconst X0 hx (v := (5 : Int32)) (hb hby own_d7_26) (q := 27) rfl rfl ?_
    refine own_irem X0 hx (hb hby own_d7_27) (q := 28) rfl (by decide) ?_
    refine own_istore (L' := #[.val (.ref a1), .val (.ref a2), .val (.int p3), .val (.int p4), .val (.int (2 : Int32)), .val (.int (((p3 + (1 : Int32)) + (2 : Int32)) % (5 : Int32))), .val (.int (((p3 + (2 : Int32)) + (2 : Int32)) % (5 : Int32)))]) X0 hx (hb hby own_d7_28) (q := 30) rfl rfl ?_
    refine own_aloadN X0 hx (hb hby own_d7_30) (q := 31) rfl rfl rfl ?_
    refine own_aloadN X0 hx (hb hby own_d7_31) (q := 32) rfl rfl rfl ?_
    refine own_iload X0 hx (hb hby own_d7_32) (q := 34) rfl rfl ?_
    refine own_iaload X0 hx hZ (i := (((p3 + (1 : Int32)) + (2 : Int32)) % (5 : Int32)).toNatClampNeg) (v := .int (own_z_cat u0 u1 u2 u3 u4 (((p3 + (1 : Int32)) + (2 : Int32)) % (5 : Int32)))) e0 V0p (own_nn5 h1) rfl (own_cat5V h1) (hb hby own_d7_34) (q := 35) rfl ?_
    refine own_iloadN X0 hx (hb hby own_d7_35) (q := 36) rfl rfl ?_
    refine own_callSP X0 hx hZ hown (hw _ (List.mem_of_getElem? (i := 26) rfl)) (hw _ (List.mem_of_getElem? (i := 27) rfl)) (hw _ (List.mem_of_getElem? (i := 2) rfl)) (hw _ (List.mem_of_getElem? (i := 28) rfl)) (by decide) (rm8 l Z a0 hw [] a2 (own_z_cat u0 u1 u2 u3 u4 (((p3 + (1 : Int32)) + (2 : Int32)) % (5 : Int32))) p3 i0 i1 i2 i3 i4 h0 V1p (own_z_cr hP h1)) own_pd2 rfl e0 (by rw [hml]; rfl) (argsL := [.ref a2, .int (own_z_cat u0 u1 u2 u3 u4 (((p3 + (1 : Int32)) + (2 : Int32)) % (5 : Int32))), .int p3]) (st := []) rfl (W := 0) (Nat.le_of_eq rfl) (by decide) (by decide) (by decide) (by decide) (hb hby own_d7_36) (q := 39) rfl (fun T628 X629 e630 => ?_)
    refine own_aloadN X629 hx (hb hby own_d7_39) (q := 40) rfl rfl rfl ?_
    refine own_aloadN X629 hx (hb hby own_d7_40) (q := 41) rfl rfl rfl ?_
    refine own_iload X629 hx (hb hby own_d7_41) (q := 43) rfl rfl ?_
    refine own_iaload X629 hx hZ (i := (((p3 + (2 : Int32)) + (2 : Int32)) % (5 : Int32)).toNatClampNeg) (v := .int (own_z_cat u0 u1 u2 u3 u4 (((p3 + (2 : Int32)) + (2 : Int32)) % (5 : Int32)))) e630 V0p (own_nn5 h2) rfl (own_cat5V h2) (hb hby own_d7_43) (q := 44) rfl ?_
    refine own_iloadN X629 hx (hb hby own_d7_44) (q := 45) rfl rfl ?_
    refine own_callSP X629 hx hZ hown (hw _ (List.mem_of_getElem? (i := 26) rfl)) (hw _ (List.mem_of_getElem? (i := 27) rfl)) (hw _ (List.mem_of_getElem? (i := 2) rfl)) (hw _ (List.mem_of_getElem? (i := 28) rfl)) (by decide) (rm8 l Z a0 hw [] a2 (own_z_cat u0 u1 u2 u3 u4 (((p3 + (2 : Int32)) + (2 : Int32)) % (5 : Int32))) p3 i0 i1 i2 i3 i4 h0 V1p (own_z_cr hP h2)) own_pd2 rfl e630 (by rw [hml]; rfl) (argsL := [.ref a2, .int (own_z_cat u0 u1 u2 u3 u4 (((p3 + (2 : Int32)) + (2 : Int32)) % (5 : Int32))), .int p3]) (st := [.int (own_f8 (own_z_cat u0 u1 u2 u3 u4 (((p3 + (1 : Int32)) + (2 : Int32)) % (5 : Int32))) p3 i0 i1 i2 i3 i4)]) rfl (W := 1) (Nat.le_of_eq rfl) (by decide) (by decide) (by decide) (by decide) (hb hby own_d7_45) (q := 48) rfl (fun T631 X632 e633 => ?_)
    refine own_icmpM X632 hx (hb hby own_d7_48) (cd := .ge) (x := own_f8 (own_z_cat u0 u1 u2 u3 u4 (((p3 + (1 : Int32)) + (2 : Int32)) % (5 : Int32))) p3 i0 i1 i2 i3 i4) (y := own_f8 (own_z_cat u0 u1 u2 u3 u4 (((p3 + (2 : Int32)) + (2 : Int32)) % (5 : Int32))) p3 i0 i1 i2 i3 i4) (pt := 55) (q := 51) (by decide) (by decide) rfl rfl (fun h => False.elim (h ((hlt c1) : (own_f8 (own_z_cat u0 u1 u2 u3 u4 (((p3 + (1 : Int32)) + (2 : Int32)) % (5 : Int32))) p3 i0 i1 i2 i3 i4) < (own_f8 (own_z_cat u0 u1 u2 u3 u4 (((p3 + (2 : Int32)) + (2 : Int32)) % (5 : Int32))) p3 i0 i1 i2 i3 i4)))) (fun _ => ?_)
    refine own_iconst X632 hx (v := (1 : Int32)) (hb hby own_d7_51) (q := 52) rfl rfl ?_
    refine own_goto X632 hx (hb hby own_d7_52) (q := 56) (by decide) (by decide) ?_
    refine own_retN X632 hx hlk (t := .boolean) (by simp) Bd.returns (hb hby own_d7_56) ?_ (by decide) (by decide)
    have r : own_f7_2 p3 p4 u0 u1 u2 u3 u4 i0 i1 i2 i3 i4 = (1 : Int32) := by rw [own_f7_2, if_pos c1]
    exact ⟨by rw [r] <;> rfl, e633, rfl⟩
  · refine own_iconst X0 hx (v := (1 : Int32)) (hb hby own_d7_8) (q := 9) rfl rfl ?_
    refine own_retN X0 hx hlk (t := .boolean) (by simp) Bd.returns (hb hby own_d7_9) ?_ (by decide) (by decide)
    have r : own_f7_2 p3 p4 u0 u1 u2 u3 u4 i0 i1 i2 i3 i4 = (1 : Int32) := by rw [own_f7_2, if_neg c1]
    exact ⟨by rw [r] <;> rfl, e0, rfl⟩
theorem own_io2 {hi m u0 u1 u2 u3 u4 i0 i1 i2 i3 i4 : Int32} : ¬ own_f7_2 hi m u0 u1 u2 u3 u4 i0 i1 i2 i3 i4 = 0 := by unfold own_f7_2; split <;> decide
theorem own_ef7_k3 (m : MethodId) (a1 : Addr) (a2 : Addr) (p3 : Int32) (p4 : Int32) : entryFrame m #[.ref a1, .ref a2, .int p3, .int p4, .int (3 : Int32)] 7 = mkF m 0 #[.val (.ref a1), .val (.ref a2), .val (.int p3), .val (.int p4), .val (.int (3 : Int32)), .unset, .unset] [] := by first | (simp [entryFrame, mkF, argsToLocals, Value.category]; done) | rfl

def own_f7_3 (p3 : Int32) (p4 : Int32) (u0 : Int32) (u1 : Int32) (u2 : Int32) (u3 : Int32) (u4 : Int32) (i0 : Int32) (i1 : Int32) (i2 : Int32) (i3 : Int32) (i4 : Int32) : Int32 := (if (4 : Int32) < p4 then (1 : Int32) else (1 : Int32))
set_option maxRecDepth 65536 in
set_option maxHeartbeats 40000000 in
theorem rm7_3 (l : Launch) (Z : State) (a0 : Array Value) (hw : ∀ d ∈ tables_1, d.before a0 Z = true) (ws : List Jvm.Cond) (a1 : Addr) (a2 : Addr) (p3 : Int32) (p4 : Int32) (u0 : Int32) (u1 : Int32) (u2 : Int32) (u3 : Int32) (u4 : Int32) (i0 : Int32) (i1 : Int32) (i2 : Int32) (i3 : Int32) (i4 : Int32) (h0 : Heap) (V0p : own_A Z h0 a1 .int [.int u0, .int u1, .int u2, .int u3, .int u4]) (V1p : own_A Z h0 a2 .int [.int i0, .int i1, .int i2, .int i3, .int i4]) (h1 : own_z_r5 ((p3 + 1 + 3) % 5)) (h2 : own_z_r5 ((p3 + 2 + 3) % 5)) (hP : own_z_P u0 u1 u2 u3 u4) (hlt : (4 : Int32) < p4 → own_z_off (own_z_cat i0 i1 i2 i3 i4 (own_z_cat u0 u1 u2 u3 u4 ((p3 + 1 + 3) % 5))) p3 < own_z_off (own_z_cat i0 i1 i2 i3 i4 (own_z_cat u0 u1 u2 u3 u4 ((p3 + 2 + 3) % 5))) p3) :
    MetFree l (⟨"com/example/tourloom/tourloom/GeneticOperatorsOrderCrossoverPinLaw", "inOrder", "([I[IIII)Z"⟩ : MethodName) (head1 (Jvm.Cond.code (⟨"com/example/tourloom/tourloom/GeneticOperatorsOrderCrossoverPinLaw", "inOrder", "([I[IIII)Z"⟩ : MethodName) method_9_code 7 (some .boolean) :: ws) ({ frames := 1, cells := 0, slots := 0, locals := 15 } : Room)) (fun a U => a = #[.ref a1, .ref a2, .int p3, .int p4, .int (3 : Int32)] ∧ Z.Warmed39 U.vm ∧ U.heap = h0) (fun _ _ _ _ _ => True) (fun _ U o U' => ∃ v L, o = .returned v ∧ own_P (.int (own_f7_3 p3 p4 u0 u1 u2 u3 u4 i0 i1 i2 i3 i4)) h0 v U'.heap L ∧ FrameEnd U o U' L ({ frames := 1, cells := 0, slots := 0, locals := 15 } : Room).cells ({ frames := 1, cells := 0, slots := 0, locals := 15 } : Room).slots) := by
  refine MetFree.of_bodySF (plainFor_of_name own_pn0) hisR ?_
  intro p e s m args below meth c s₁ Bd hml0 hP hK
  obtain ⟨rfl, hZ, hh⟩ := hP
  have hx := Bd.exec
  have hby := Bd.bytes
  have hml : c.maxLocals = 7 := hml0
  have hown : s.vm.findClass "com/example/tourloom/tourloom/GeneticOperatorsOrderCrossoverPinLaw" = some m.cls := findClass_of_methodNamed Bd.named
  have hnm := (name_of_methodNamed Bd.named Bd.method).1
  have hlk : meth.locks = false := BodyLoose.notSynchronized Bd
  have X0 : Stand p l e ({ frames := 1, cells := 0, slots := 0, locals := 15 } : Room) s m #[.ref a1, .ref a2, .int p3, .int p4, .int (3 : Int32)] below meth c s₁ [] 0 0 := Stand.of_body Bd
  have e0 : s₁.heap = h0 := by rw [← hh, Bd.state]; rfl
  show own_Go p e below (own_E s 0 0 (own_P (.int (own_f7_3 p3 p4 u0 u1 u2 u3 u4 i0 i1 i2 i3 i4)) h0)) (s₁.setTop (entryFrame m #[.ref a1, .ref a2, .int p3, .int p4, .int (3 : Int32)] 7))
  rw [own_ef7_k3]
  refine own_iload X0 hx (hb hby own_d7_0) (q := 2) rfl rfl ?_
  refine own_iconst X0 hx (v := (1 : Int32)) (hb hby own_d7_2) (q := 3) rfl rfl ?_
  refine own_iadd X0 hx (hb hby own_d7_3) (q := 4) rfl ?_
  rw [show ((3 : Int32) + (1 : Int32) : Int32) = (4 : Int32) from by decide]
  refine own_iloadN X0 hx (hb hby own_d7_4) (q := 5) rfl rfl ?_
  refine own_icmpP X0 hx (hb hby own_d7_5) (cd := .lt) (x := (4 : Int32)) (y := p4) (pt := 10) (q := 8) (by decide) (by decide) rfl rfl (fun (c1 : (4 : Int32) < p4) => ?_) (fun (c1 : ¬ ((4 : Int32) < p4)) => ?_)
  · refine own_iloadN X0 hx (hb hby own_d7_10) (q := 11) rfl rfl ?_
    refine own_iconst X0 hx (v := (1 : Int32)) (hb hby own_d7_11) (q := 12) rfl rfl ?_
    refine own_iadd X0 hx (hb hby own_d7_12) (q := 13) rfl ?_
    refine own_iload X0 hx (hb hby own_d7_13) (q := 15) rfl rfl ?_
    refine own_iadd X0 hx (hb hby own_d7_15) (q := 16) rfl ?_
    refine own_iconst X0 hx (v := (5 : Int32)) (hb hby own_d7_16) (q := 17) rfl rfl ?_
    refine own_irem X0 hx (hb hby own_d7_17) (q := 18) rfl (by decide) ?_
    refine own_istore (L' := #[.val (.ref a1), .val (.ref a2), .val (.int p3), .val (.int p4), .val (.int (3 : Int32)), .val (.int (((p3 + (1 : Int32)) + (3 : Int32)) % (5 : Int32))), .unset]) X0 hx (hb hby own_d7_18) (q := 20) rfl rfl ?_
    refine own_iloadN X0 hx (hb hby own_d7_20) (q := 21) rfl rfl ?_
    refine own_iconst X0 hx (v := (2 : Int32)) (hb hby own_d7_21) (q := 22) rfl rfl ?_
    refine own_iadd X0 hx (hb hby own_d7_22) (q := 23) rfl ?_
    refine own_iload X0 hx (hb hby own_d7_23) (q := 25) rfl rfl ?_
    refine own_iadd X0 hx (hb hby own_d7_25) (q := 26) rfl ?_
    refine own_iconst X0 hx (v := (5 : Int32)) (hb hby own_d7_26) (q := 27) rfl rfl ?_
    refine own_irem X0 hx (hb hby own_d7_27) (q := 28) rfl (by decide) ?_
    refine own_istore (L' := #[.val (.ref a1), .val (.ref a2), .val (.int p3), .val (.int p4), .val (.int (3 : Int32)), .val (.int (((p3 + (1 : Int32)) + (3 : Int32)) % (5 : Int32))), .val (.int (((p3 + (2 : Int32)) + (3 : Int32)) % (5 : Int32)))]) X0 hx (hb hby own_d7_28) (q := 30) rfl rfl ?_
    refine own_aloadN X0 hx (hb hby own_d7_30) (q := 31) rfl rfl rfl ?_
    refine own_aloadN X0 hx (hb hby own_d7_31) (q := 32) rfl rfl rfl ?_
    refine own_iload X0 hx (hb hby own_d7_32) (q := 34) rfl rfl ?_
    refine own_iaload X0 hx hZ (i := (((p3 + (1 : Int32)) + (3 : Int32)) % (5 : Int32)).toNatClampNeg) (v := .int (own_z_cat u0 u1 u2 u3 u4 (((p3 + (1 : Int32)) + (3 : Int32)) % (5 : Int32)))) e0 V0p (own_nn5 h1) rfl (own_cat5V h1) (hb hby own_d7_34) (q := 35) rfl ?_
    refine own_iloadN X0 hx (hb hby own_d7_35) (q := 36) rfl rfl ?_
    refine own_callSP X0 hx hZ hown (hw _ (List.mem_of_getElem? (i := 26) rfl)) (hw _ (List.mem_of_getElem? (i := 27) rfl)) (hw _ (List.mem_of_getElem? (i := 2) rfl)) (hw _ (List.mem_of_getElem? (i := 28) rfl)) (by decide) (rm8 l Z a0 hw [] a2 (own_z_cat u0 u1 u2 u3 u4 (((p3 + (1 : Int32)) + (3 : Int32)) % (5 : Int32))) p3 i0 i1 i2 i3 i4 h0 V1p (own_z_cr hP h1)) own_pd2 rfl e0 (by rw [hml]; rfl) (argsL := [.ref a2, .int (own_z_cat u0 u1 u2 u3 u4 (((p3 + (1 : Int32)) + (3 : Int32)) % (5 : Int32))), .int p3]) (st := []) rfl (W := 0) (Nat.le_of_eq rfl) (by decide) (by decide) (by decide) (by decide) (hb hby own_d7_36) (q := 39) rfl (fun T634 X635 e636 => ?_)
    refine own_aloadN X635 hx (hb hby own_d7_39) (q := 40) rfl rfl rfl ?_
    refine own_aloadN X635 hx (hb hby own_d7_40) (q := 41) rfl rfl rfl ?_
    refine own_iload X635 hx (hb hby own_d7_41) (q := 43) rfl rfl ?_
    refine own_iaload X635 hx hZ (i := (((p3 + (2 : Int32)) + (3 : Int32)) % (5 : Int32)).toNatClampNeg) (v := .int (own_z_cat u0 u1 u2 u3 u4 (((p3 + (2 : Int32)) + (3 : Int32)) % (5 : Int32)))) e636 V0p (own_nn5 h2) rfl (own_cat5V h2) (hb hby own_d7_43) (q := 44) rfl ?_
    refine own_iloadN X635 hx (hb hby own_d7_44) (q := 45) rfl rfl ?_
    refine own_callSP X635 hx hZ hown (hw _ (List.mem_of_getElem? (i := 26) rfl)) (hw _ (List.mem_of_getElem? (i := 27) rfl)) (hw _ (List.mem_of_getElem? (i := 2) rfl)) (hw _ (List.mem_of_getElem? (i := 28) rfl)) (by decide) (rm8 l Z a0 hw [] a2 (own_z_cat u0 u1 u2 u3 u4 (((p3 + (2 : Int32)) + (3 : Int32)) % (5 : Int32))) p3 i0 i1 i2 i3 i4 h0 V1p (own_z_cr hP h2)) own_pd2 rfl e636 (by rw [hml]; rfl) (argsL := [.ref a2, .int (own_z_cat u0 u1 u2 u3 u4 (((p3 + (2 : Int32)) + (3 : Int32)) % (5 : Int32))), .int p3]) (st := [.int (own_f8 (own_z_cat u0 u1 u2 u3 u4 (((p3 + (1 : Int32)) + (3 : Int32)) % (5 : Int32))) p3 i0 i1 i2 i3 i4)]) rfl (W := 1) (Nat.le_of_eq rfl) (by decide) (by decide) (by decide) (by decide) (hb hby own_d7_45) (q := 48) rfl (fun T637 X638 e639 => ?_)
    refine own_icmpM X638 hx (hb hby own_d7_48) (cd := .ge) (x := own_f8 (own_z_cat u0 u1 u2 u3 u4 (((p3 + (1 : Int32)) + (3 : Int32)) % (5 : Int32))) p3 i0 i1 i2 i3 i4) (y := own_f8 (own_z_cat u0 u1 u2 u3 u4 (((p3 + (2 : Int32)) + (3 : Int32)) % (5 : Int32))) p3 i0 i1 i2 i3 i4) (pt := 55) (q := 51) (by decide) (by decide) rfl rfl (fun h => False.elim (h ((hlt c1) : (own_f8 (own_z_cat u0 u1 u2 u3 u4 (((p3 + (1 : Int32)) + (3 : Int32)) % (5 : Int32))) p3 i0 i1 i2 i3 i4) < (own_f8 (own_z_cat u0 u1 u2 u3 u4 (((p3 + (2 : Int32)) + (3 : Int32)) % (5 : Int32))) p3 i0 i1 i2 i3 i4)))) (fun _ => ?_)
    refine own_iconst X638 hx (v := (1 : Int32)) (hb hby own_d7_51) (q := 52) rfl rfl ?_
    refine own_goto X638 hx (hb hby own_d7_52) (q := 56) (by decide) (by decide) ?_
    refine own_retN X638 hx hlk (t := .boolean) (by simp) Bd.returns (hb hby own_d7_56) ?_ (by decide) (by decide)
    have r : own_f7_3 p3 p4 u0 u1 u2 u3 u4 i0 i1 i2 i3 i4 = (1 : Int32) := by rw [own_f7_3, if_pos c1]
    exact ⟨by rw [r] <;> rfl, e639, rfl⟩
  · refine own_iconst X0 hx (v := (1 : Int32)) (hb hby own_d7_8) (q := 9) rfl rfl ?_
    refine own_retN X0 hx hlk (t := .boolean) (by simp) Bd.returns (hb hby own_d7_9) ?_ (by decide) (by decide)
    have r : own_f7_3 p3 p4 u0 u1 u2 u3 u4 i0 i1 i2 i3 i4 = (1 : Int32) := by rw [own_f7_3, if_neg c1]
    exact ⟨by rw [r] <;> rfl, e0, rfl⟩
theorem own_io3 {hi m u0 u1 u2 u3 u4 i0 i1 i2 i3 i4 : Int32} : ¬ own_f7_3 hi m u0 u1 u2 u3 u4 i0 i1 i2 i3 i4 = 0 := by unfold own_f7_3; split <;> decide
theorem own_pd3 : parseMethodDescriptor "(I)[I" = some ⟨[.int], some (.array .int)⟩ := by decide +kernel
theorem own_pd4 : parseMethodDescriptor "([I[III)[I" = some ⟨[(.array .int), (.array .int), .int, .int], some (.array .int)⟩ := by decide +kernel
theorem own_pd5 : parseMethodDescriptor "([I)Z" = some ⟨[(.array .int)], some .boolean⟩ := by decide +kernel
theorem own_pd6 : parseMethodDescriptor "([I[IIII)Z" = some ⟨[(.array .int), (.array .int), .int, .int, .int], some .boolean⟩ := by decide +kernel
theorem own_ef0 (m : MethodId) (p1 : Int32) (p2 : Int32) (p3 : Int32) (p4 : Int32) : entryFrame m #[.int p1, .int p2, .int p3, .int p4] maxLocals = mkF m 0 #[.val (.int p1), .val (.int p2), .val (.int p3), .val (.int p4), .unset, .unset, .unset, .unset, .unset, .unset, .unset] [] := by first | (simp [entryFrame, mkF, argsToLocals, Value.category, maxLocals]; done) | rfl
def own_Q0 (n0 : Nat) (v : Option Value) (h : Heap) (L : List Loc) : Prop := v = some (.int 1) ∧ Fr n0 L
set_option maxRecDepth 65536 in
set_option maxHeartbeats 40000000 in
theorem rm0 (l : Launch) (Z : State) (a0 : Array Value) (hw : ∀ d ∈ tables_1, d.before a0 Z = true) (ws : List Jvm.Cond) (p1 : Int32) (p2 : Int32) (p3 : Int32) (p4 : Int32) (h0 : Heap) (n0 : Nat) (Z0 : n0 ≤ h0.size) :
    MetFree l x (head1 (Jvm.Cond.code x code maxLocals ret :: ws) room_1) (fun a U => a = #[.int p1, .int p2, .int p3, .int p4] ∧ Z.Warmed39 U.vm ∧ U.heap = h0) (fun _ _ _ _ _ => True) (fun _ U o U' => ∃ v L, o = .returned v ∧ own_Q0 n0 v U'.heap L ∧ FrameEnd U o U' L 24 128) := by
  refine MetFree.of_bodySF (plainFor_of_name own_pn0) hisR ?_
  intro p e s m args below meth c s₁ Bd hml0 hP hK
  obtain ⟨rfl, hZ, hh⟩ := hP
  have hx := Bd.exec
  have hby := Bd.bytes
  have hml : c.maxLocals = 11 := hml0
  have hown : s.vm.findClass "com/example/tourloom/tourloom/GeneticOperatorsOrderCrossoverPinLaw" = some m.cls := findClass_of_methodNamed Bd.named
  have hnm := (name_of_methodNamed Bd.named Bd.method).1
  have hlk : meth.locks = false := BodyLoose.notSynchronized Bd
  have X0 : Stand p l e room_1 s m #[.int p1, .int p2, .int p3, .int p4] below meth c s₁ [] 0 0 := Stand.of_body Bd
  have e0 : s₁.heap = h0 := by rw [← hh, Bd.state]; rfl
  have N0 := Fr.nil n0
  show own_Go p e below (own_E s 24 128 (own_Q0 n0)) (s₁.setTop (entryFrame m #[.int p1, .int p2, .int p3, .int p4] maxLocals))
  rw [own_ef0]
  refine own_iloadN X0 hx (hb hby at_0) (q := 1) rfl rfl ?_
  refine own_callS X0 hx hZ hown (hw _ (List.mem_of_getElem? (i := 0) rfl)) (hw _ (List.mem_of_getElem? (i := 1) rfl)) (hw _ (List.mem_of_getElem? (i := 2) rfl)) (hw _ (List.mem_of_getElem? (i := 3) rfl)) (by decide) (rm1 l Z a0 hw [] p1 h0 n0 Z0  ) own_pd3 rfl e0 (by rw [hml]; rfl) (argsL := [.int p1]) (st := []) rfl (W := 0) (Nat.le_of_eq rfl) (by decide) (by decide) (by decide) (by decide) (hb hby at_1) (q := 4) rfl (fun v646 T647 L648 X649 hQ650 => ?_)
  obtain ⟨a654, rfl, N651, K652, O655, A656⟩ := hQ650
  have Z657 : n0 ≤ T647.heap.size := Nat.le_trans Z0 K652.1
  have N653 := Fr.app N0 N651
  have Z658 : n0 ≤ a654 := Nat.le_trans Z0 O655
  show own_Go p e below (own_E s 24 128 (own_Q0 n0)) (T647.setTop (mkF m 4 #[.val (.int p1), .val (.int p2), .val (.int p3), .val (.int p4), .unset, .unset, .unset, .unset, .unset, .unset, .unset] [.ref a654]))
  refine own_astore (L' := #[.val (.int p1), .val (.int p2), .val (.int p3), .val (.int p4), .val (.ref a654), .unset, .unset, .unset, .unset, .unset, .unset]) X649 hx (hb hby at_4) (q := 6) rfl rfl rfl ?_
  refine own_iloadN X649 hx (hb hby at_6) (q := 7) rfl rfl ?_
  refine own_callS X649 hx hZ hown (hw _ (List.mem_of_getElem? (i := 0) rfl)) (hw _ (List.mem_of_getElem? (i := 1) rfl)) (hw _ (List.mem_of_getElem? (i := 2) rfl)) (hw _ (List.mem_of_getElem? (i := 3) rfl)) (by decide) (rm1 l Z a0 hw [] p2 T647.heap n0 Z657  ) own_pd3 rfl rfl (by rw [hml]; rfl) (argsL := [.int p2]) (st := []) rfl (W := 0) (Nat.le_of_eq rfl) (by decide) (by decide) (by decide) (by decide) (hb hby at_7) (q := 10) rfl (fun v665 T666 L667 X668 hQ669 => ?_)
  obtain ⟨a673, rfl, N670, K671, O674, A675⟩ := hQ669
  have A676 := A656.keep K671 nin0
  have Z677 : n0 ≤ T666.heap.size := Nat.le_trans Z657 K671.1
  have N672 := Fr.app N653 N670
  have ne678 : a654 ≠ a673 := Nat.ne_of_lt (Nat.lt_of_lt_of_le A656.lt O674)
  have Z679 : n0 ≤ a673 := Nat.le_trans Z657 O674
  show own_Go p e below (own_E s 24 128 (own_Q0 n0)) (T666.setTop (mkF m 10 #[.val (.int p1), .val (.int p2), .val (.int p3), .val (.int p4), .val (.ref a654), .unset, .unset, .unset, .unset, .unset, .unset] [.ref a673]))
  refine own_astore (L' := #[.val (.int p1), .val (.int p2), .val (.int p3), .val (.int p4), .val (.ref a654), .val (.ref a673), .unset, .unset, .unset, .unset, .unset]) X668 hx (hb hby at_10) (q := 12) rfl rfl rfl ?_
  refine own_iloadN X668 hx (hb hby at_12) (q := 13) rfl rfl ?_
  refine own_ldc X668 hx hZ hown (hw _ (List.mem_of_getElem? (i := 4) rfl)) (hb hby at_13) (q := 15) rfl ?_
  refine own_iand X668 hx (hb hby at_15) (q := 16) rfl ?_
  refine own_iconst X668 hx (v := (5 : Int32)) (hb hby at_16) (q := 17) rfl rfl ?_
  refine own_irem X668 hx (hb hby at_17) (q := 18) rfl (by decide) ?_
  refine own_istore (L' := #[.val (.int p1), .val (.int p2), .val (.int p3), .val (.int p4), .val (.ref a654), .val (.ref a673), .val (.int ((p3 &&& (2147483647 : Int32)) % (5 : Int32))), .unset, .unset, .unset, .unset]) X668 hx (hb hby at_18) (q := 20) rfl rfl ?_
  refine own_iload X668 hx (hb hby at_20) (q := 22) rfl rfl ?_
  refine own_iloadN X668 hx (hb hby at_22) (q := 23) rfl rfl ?_
  refine own_ldc X668 hx hZ hown (hw _ (List.mem_of_getElem? (i := 4) rfl)) (hb hby at_23) (q := 25) rfl ?_
  refine own_iand X668 hx (hb hby at_25) (q := 26) rfl ?_
  refine own_iconst X668 hx (v := (5 : Int32)) (hb hby at_26) (q := 27) rfl rfl ?_
  refine own_iload X668 hx (hb hby at_27) (q := 29) rfl rfl ?_
  refine own_isub X668 hx (hb hby at_29) (q := 30) rfl ?_
  refine own_irem X668 hx (hb hby at_30) (q := 31) rfl (own_nz5 p3) ?_
  refine own_iadd X668 hx (hb hby at_31) (q := 32) rfl ?_
  refine own_istore (L' := #[.val (.int p1), .val (.int p2), .val (.int p3), .val (.int p4), .val (.ref a654), .val (.ref a673), .val (.int ((p3 &&& (2147483647 : Int32)) % (5 : Int32))), .val (.int (((p3 &&& (2147483647 : Int32)) % (5 : Int32)) + ((p4 &&& (2147483647 : Int32)) % ((5 : Int32) - ((p3 &&& (2147483647 : Int32)) % (5 : Int32)))))), .unset, .unset, .unset]) X668 hx (hb hby at_32) (q := 34) rfl rfl ?_
  have J34 : ∀ (lo : Int32) (hi : Int32) (k0 : Int32) (k1 : Int32) (k2 : Int32) (k3 : Int32) (k4 : Int32) (o0 : Int32) (o1 : Int32) (o2 : Int32) (o3 : Int32) (o4 : Int32) (T680 : State) (h683 : Heap) (L686 : List Loc), own_Lk X668 T680 L686 → T680.heap = h683 → own_A Z h683 a654 .int [.int k0, .int k1, .int k2, .int k3, .int k4] → own_A Z h683 a673 .int [.int o0, .int o1, .int o2, .int o3, .int o4] → n0 ≤ h683.size → Fr n0 L686 → own_z_LH lo hi → own_z_P k0 k1 k2 k3 k4 → own_z_P o0 o1 o2 o3 o4 → own_Go p e below (own_E s 24 128 (own_Q0 n0)) (T680.setTop (mkF m 34 #[.val (.int p1), .val (.int p2), .val (.int p3), .val (.int p4), .val (.ref a654), .val (.ref a673), .val (.int lo), .val (.int hi), .unset, .unset, .unset] [])) := by
    intro lo hi k0 k1 k2 k3 k4 o0 o1 o2 o3 o4 T680 h683 L686 X681 e682 A690 A691 Z685 N684 hy687 hy688 hy689
    replace X681 := own_Lk.get X681
    have hL := hy687
    have hk := hy688
    have ho := hy689
    refine own_aload X681 hx (hb hby at_34) (q := 36) rfl rfl rfl ?_
    refine own_aload X681 hx (hb hby at_36) (q := 38) rfl rfl rfl ?_
    refine own_iload X681 hx (hb hby at_38) (q := 40) rfl rfl ?_
    refine own_iload X681 hx (hb hby at_40) (q := 42) rfl rfl ?_
    refine own_callS X681 hx hZ hown (hw _ (List.mem_of_getElem? (i := 9) rfl)) (hw _ (List.mem_of_getElem? (i := 10) rfl)) (hw _ (List.mem_of_getElem? (i := 11) rfl)) (hw _ (List.mem_of_getElem? (i := 12) rfl)) (by decide) (rm3 l Z a0 hw [] a654 a673 lo hi k0 k1 k2 k3 k4 o0 o1 o2 o3 o4 h683 n0 Z685 A690 A691 hL hk ho) own_pd4 rfl e682 (by rw [hml]; rfl) (argsL := [.ref a654, .ref a673, .int lo, .int hi]) (st := []) rfl (W := 0) (Nat.le_of_eq rfl) (by decide) (by decide) (by decide) (by decide) (hb hby at_42) (q := 45) rfl (fun v698 T699 L700 X701 hQ702 => ?_)
    obtain ⟨a706, rfl, N703, K704, O707, A708⟩ := hQ702
    have A709 := A690.keep K704 nin0
    have A710 := A691.keep K704 nin0
    have Z711 : n0 ≤ T699.heap.size := Nat.le_trans Z685 K704.1
    have N705 := Fr.app N684 N703
    have ne712 : a654 ≠ a706 := Nat.ne_of_lt (Nat.lt_of_lt_of_le A690.lt O707)
    have ne713 : a673 ≠ a706 := Nat.ne_of_lt (Nat.lt_of_lt_of_le A691.lt O707)
    have Z714 : n0 ≤ a706 := Nat.le_trans Z685 O707
    show own_Go p e below (own_E s 24 128 (own_Q0 n0)) (T699.setTop (mkF m 45 #[.val (.int p1), .val (.int p2), .val (.int p3), .val (.int p4), .val (.ref a654), .val (.ref a673), .val (.int lo), .val (.int hi), .unset, .unset, .unset] [.ref a706]))
    refine own_astore (L' := #[.val (.int p1), .val (.int p2), .val (.int p3), .val (.int p4), .val (.ref a654), .val (.ref a673), .val (.int lo), .val (.int hi), .val (.ref a706), .unset, .unset]) X701 hx (hb hby at_45) (q := 47) rfl rfl rfl ?_
    obtain ⟨u0, hc0⟩ : ∃ z, z = own_z_y5_0 0 lo hi k0 k1 k2 k3 k4 o0 o1 o2 o3 o4 := ⟨_, rfl⟩
    obtain ⟨u1, hc1⟩ : ∃ z, z = own_z_y5_1 0 lo hi k0 k1 k2 k3 k4 o0 o1 o2 o3 o4 := ⟨_, rfl⟩
    obtain ⟨u2, hc2⟩ : ∃ z, z = own_z_y5_2 0 lo hi k0 k1 k2 k3 k4 o0 o1 o2 o3 o4 := ⟨_, rfl⟩
    obtain ⟨u3, hc3⟩ : ∃ z, z = own_z_y5_3 0 lo hi k0 k1 k2 k3 k4 o0 o1 o2 o3 o4 := ⟨_, rfl⟩
    obtain ⟨u4, hc4⟩ : ∃ z, z = own_z_y5_4 0 lo hi k0 k1 k2 k3 k4 o0 o1 o2 o3 o4 := ⟨_, rfl⟩
    rw [← hc0, ← hc1, ← hc2, ← hc3, ← hc4] at A708
    have hPl := own_z_plain hL hk ho
    rw [← hc0, ← hc1, ← hc2, ← hc3, ← hc4] at hPl
    obtain ⟨hPc, ⟨hq0, hq1, hq2, hq3, hq4⟩, ho0, ho1, ho2, ho3⟩ := hPl
    refine own_aload X701 hx (hb hby at_47) (q := 49) rfl rfl rfl ?_
    refine own_nullN X701 hx (hb hby at_49) (q := 52) rfl ?_
    refine own_aload X701 hx (hb hby at_52) (q := 54) rfl rfl rfl ?_
    refine own_alen X701 hx hZ (n := (5 : Int32)) rfl A708 rfl (hb hby at_54) (q := 55) rfl ?_
    refine own_iconst X701 hx (v := (5 : Int32)) (hb hby at_55) (q := 56) rfl rfl ?_
    refine own_icmpP X701 hx (hb hby at_56) (cd := .eq) (x := (5 : Int32)) (y := (5 : Int32)) (pt := 61) (q := 59) (by decide) (by decide) rfl rfl (fun _ => ?_) (fun h => False.elim (h ((by decide) : (5 : Int32) = (5 : Int32))))
    refine own_aload X701 hx (hb hby at_61) (q := 63) rfl rfl rfl ?_
    refine own_callS X701 hx hZ hown (hw _ (List.mem_of_getElem? (i := 14) rfl)) (hw _ (List.mem_of_getElem? (i := 15) rfl)) (hw _ (List.mem_of_getElem? (i := 2) rfl)) (hw _ (List.mem_of_getElem? (i := 16) rfl)) (by decide) (rm4 l Z a0 hw [] a706 u0 u1 u2 u3 u4 T699.heap n0 Z711 A708 hPc) own_pd5 rfl rfl (by rw [hml]; rfl) (argsL := [.ref a706]) (st := []) rfl (W := 0) (Nat.le_of_eq rfl) (by decide) (by decide) (by decide) (by decide) (hb hby at_63) (q := 66) rfl (fun v721 T722 L723 X724 hQ725 => ?_)
    obtain ⟨rfl, N726, K727, A729⟩ := hQ725
    have A730 := A709.keep K727 nin0
    have A731 := A710.keep K727 nin0
    have Z732 : n0 ≤ T722.heap.size := Nat.le_trans Z711 K727.1
    have N728 := Fr.app N705 N726
    show own_Go p e below (own_E s 24 128 (own_Q0 n0)) (T722.setTop (mkF m 66 #[.val (.int p1), .val (.int p2), .val (.int p3), .val (.int p4), .val (.ref a654), .val (.ref a673), .val (.int lo), .val (.int hi), .val (.ref a706), .unset, .unset] [.int (own_f4 a706 u0 u1 u2 u3 u4)]))
    refine own_if0M X724 hx (hb hby at_66) (cd := .ne) (x := own_f4 a706 u0 u1 u2 u3 u4) (pt := 71) (q := 69) (by decide) (by decide) rfl rfl (fun _ => ?_) (fun h => False.elim (((by unfold own_f4; decide) : ¬ ((own_f4 a706 u0 u1 u2 u3 u4) = (0 : Int32))) h))
    refine own_aload X724 hx (hb hby at_71) (q := 73) rfl rfl rfl ?_
    refine own_aload X724 hx (hb hby at_73) (q := 75) rfl rfl rfl ?_
    refine own_iload X724 hx (hb hby at_75) (q := 77) rfl rfl ?_
    refine own_iload X724 hx (hb hby at_77) (q := 79) rfl rfl ?_
    refine own_iconst X724 hx (v := (0 : Int32)) (hb hby at_79) (q := 80) rfl rfl ?_
    refine own_callSP X724 hx hZ hown (hw _ (List.mem_of_getElem? (i := 20) rfl)) (hw _ (List.mem_of_getElem? (i := 21) rfl)) (hw _ (List.mem_of_getElem? (i := 2) rfl)) (hw _ (List.mem_of_getElem? (i := 22) rfl)) (by decide) (rm6_0 l Z a0 hw [] a706 a654 lo hi u0 u1 u2 u3 u4 k0 k1 k2 k3 k4 T722.heap A729 A730 hq0) own_pd6 rfl rfl (by rw [hml]; rfl) (argsL := [.ref a706, .ref a654, .int lo, .int hi, .int (0 : Int32)]) (st := []) rfl (W := 0) (Nat.le_of_eq rfl) (by decide) (by decide) (by decide) (by decide) (hb hby at_80) (q := 83) rfl (fun T733 X734 e735 => ?_)
    refine own_if0P X734 hx (hb hby at_83) (cd := .eq) (x := own_f6_0 lo hi u0 u1 u2 u3 u4 k0 k1 k2 k3 k4) (pt := 146) (q := 86) (by decide) (by decide) rfl rfl (fun h => False.elim ((own_ka0 : ¬ ((own_f6_0 lo hi u0 u1 u2 u3 u4 k0 k1 k2 k3 k4) = (0 : Int32))) h)) (fun _ => ?_)
    refine own_aload X734 hx (hb hby at_86) (q := 88) rfl rfl rfl ?_
    refine own_aload X734 hx (hb hby at_88) (q := 90) rfl rfl rfl ?_
    refine own_iload X734 hx (hb hby at_90) (q := 92) rfl rfl ?_
    refine own_iload X734 hx (hb hby at_92) (q := 94) rfl rfl ?_
    refine own_iconst X734 hx (v := (1 : Int32)) (hb hby at_94) (q := 95) rfl rfl ?_
    refine own_callSP X734 hx hZ hown (hw _ (List.mem_of_getElem? (i := 20) rfl)) (hw _ (List.mem_of_getElem? (i := 21) rfl)) (hw _ (List.mem_of_getElem? (i := 2) rfl)) (hw _ (List.mem_of_getElem? (i := 22) rfl)) (by decide) (rm6_1 l Z a0 hw [] a706 a654 lo hi u0 u1 u2 u3 u4 k0 k1 k2 k3 k4 T722.heap A729 A730 hq1) own_pd6 rfl e735 (by rw [hml]; rfl) (argsL := [.ref a706, .ref a654, .int lo, .int hi, .int (1 : Int32)]) (st := []) rfl (W := 0) (Nat.le_of_eq rfl) (by decide) (by decide) (by decide) (by decide) (hb hby at_95) (q := 98) rfl (fun T736 X737 e738 => ?_)
    refine own_if0P X737 hx (hb hby at_98) (cd := .eq) (x := own_f6_1 lo hi u0 u1 u2 u3 u4 k0 k1 k2 k3 k4) (pt := 146) (q := 101) (by decide) (by decide) rfl rfl (fun h => False.elim ((own_ka1 : ¬ ((own_f6_1 lo hi u0 u1 u2 u3 u4 k0 k1 k2 k3 k4) = (0 : Int32))) h)) (fun _ => ?_)
    refine own_aload X737 hx (hb hby at_101) (q := 103) rfl rfl rfl ?_
    refine own_aload X737 hx (hb hby at_103) (q := 105) rfl rfl rfl ?_
    refine own_iload X737 hx (hb hby at_105) (q := 107) rfl rfl ?_
    refine own_iload X737 hx (hb hby at_107) (q := 109) rfl rfl ?_
    refine own_iconst X737 hx (v := (2 : Int32)) (hb hby at_109) (q := 110) rfl rfl ?_
    refine own_callSP X737 hx hZ hown (hw _ (List.mem_of_getElem? (i := 20) rfl)) (hw _ (List.mem_of_getElem? (i := 21) rfl)) (hw _ (List.mem_of_getElem? (i := 2) rfl)) (hw _ (List.mem_of_getElem? (i := 22) rfl)) (by decide) (rm6_2 l Z a0 hw [] a706 a654 lo hi u0 u1 u2 u3 u4 k0 k1 k2 k3 k4 T722.heap A729 A730 hq2) own_pd6 rfl e738 (by rw [hml]; rfl) (argsL := [.ref a706, .ref a654, .int lo, .int hi, .int (2 : Int32)]) (st := []) rfl (W := 0) (Nat.le_of_eq rfl) (by decide) (by decide) (by decide) (by decide) (hb hby at_110) (q := 113) rfl (fun T739 X740 e741 => ?_)
    refine own_if0P X740 hx (hb hby at_113) (cd := .eq) (x := own_f6_2 lo hi u0 u1 u2 u3 u4 k0 k1 k2 k3 k4) (pt := 146) (q := 116) (by decide) (by decide) rfl rfl (fun h => False.elim ((own_ka2 : ¬ ((own_f6_2 lo hi u0 u1 u2 u3 u4 k0 k1 k2 k3 k4) = (0 : Int32))) h)) (fun _ => ?_)
    refine own_aload X740 hx (hb hby at_116) (q := 118) rfl rfl rfl ?_
    refine own_aload X740 hx (hb hby at_118) (q := 120) rfl rfl rfl ?_
    refine own_iload X740 hx (hb hby at_120) (q := 122) rfl rfl ?_
    refine own_iload X740 hx (hb hby at_122) (q := 124) rfl rfl ?_
    refine own_iconst X740 hx (v := (3 : Int32)) (hb hby at_124) (q := 125) rfl rfl ?_
    refine own_callSP X740 hx hZ hown (hw _ (List.mem_of_getElem? (i := 20) rfl)) (hw _ (List.mem_of_getElem? (i := 21) rfl)) (hw _ (List.mem_of_getElem? (i := 2) rfl)) (hw _ (List.mem_of_getElem? (i := 22) rfl)) (by decide) (rm6_3 l Z a0 hw [] a706 a654 lo hi u0 u1 u2 u3 u4 k0 k1 k2 k3 k4 T722.heap A729 A730 hq3) own_pd6 rfl e741 (by rw [hml]; rfl) (argsL := [.ref a706, .ref a654, .int lo, .int hi, .int (3 : Int32)]) (st := []) rfl (W := 0) (Nat.le_of_eq rfl) (by decide) (by decide) (by decide) (by decide) (hb hby at_125) (q := 128) rfl (fun T742 X743 e744 => ?_)
    refine own_if0P X743 hx (hb hby at_128) (cd := .eq) (x := own_f6_3 lo hi u0 u1 u2 u3 u4 k0 k1 k2 k3 k4) (pt := 146) (q := 131) (by decide) (by decide) rfl rfl (fun h => False.elim ((own_ka3 : ¬ ((own_f6_3 lo hi u0 u1 u2 u3 u4 k0 k1 k2 k3 k4) = (0 : Int32))) h)) (fun _ => ?_)
    refine own_aload X743 hx (hb hby at_131) (q := 133) rfl rfl rfl ?_
    refine own_aload X743 hx (hb hby at_133) (q := 135) rfl rfl rfl ?_
    refine own_iload X743 hx (hb hby at_135) (q := 137) rfl rfl ?_
    refine own_iload X743 hx (hb hby at_137) (q := 139) rfl rfl ?_
    refine own_iconst X743 hx (v := (4 : Int32)) (hb hby at_139) (q := 140) rfl rfl ?_
    refine own_callSP X743 hx hZ hown (hw _ (List.mem_of_getElem? (i := 20) rfl)) (hw _ (List.mem_of_getElem? (i := 21) rfl)) (hw _ (List.mem_of_getElem? (i := 2) rfl)) (hw _ (List.mem_of_getElem? (i := 22) rfl)) (by decide) (rm6_4 l Z a0 hw [] a706 a654 lo hi u0 u1 u2 u3 u4 k0 k1 k2 k3 k4 T722.heap A729 A730 hq4) own_pd6 rfl e744 (by rw [hml]; rfl) (argsL := [.ref a706, .ref a654, .int lo, .int hi, .int (4 : Int32)]) (st := []) rfl (W := 0) (Nat.le_of_eq rfl) (by decide) (by decide) (by decide) (by decide) (hb hby at_140) (q := 143) rfl (fun T745 X746 e747 => ?_)
    refine own_if0M X746 hx (hb hby at_143) (cd := .ne) (x := own_f6_4 lo hi u0 u1 u2 u3 u4 k0 k1 k2 k3 k4) (pt := 148) (q := 146) (by decide) (by decide) rfl rfl (fun _ => ?_) (fun h => False.elim ((own_ka4 : ¬ ((own_f6_4 lo hi u0 u1 u2 u3 u4 k0 k1 k2 k3 k4) = (0 : Int32))) h))
    refine own_iconst X746 hx (v := (5 : Int32)) (hb hby at_148) (q := 149) rfl rfl ?_
    refine own_newA X746 hx hZ (aty := .int) (ty := .int) (k := 5) (cap := 5) rfl (hw _ (List.mem_of_getElem? (i := 5) rfl)) e747 (by decide) (by decide) (by decide) (by decide) (by decide) (by decide) (hb hby at_149) (q := 151) rfl (fun T748 h751 a752 X749 e750 g753 E754 A755 => ?_)
    have A756 := A730.ext E754
    have A757 := A731.ext E754
    have A758 := A729.ext E754
    have ne759 : a654 ≠ a752 := by rw [g753]; exact Nat.ne_of_lt A730.lt
    have ne760 : a673 ≠ a752 := by rw [g753]; exact Nat.ne_of_lt A731.lt
    have ne761 : a706 ≠ a752 := by rw [g753]; exact Nat.ne_of_lt A729.lt
    have Z762 : n0 ≤ a752 := by rw [g753]; exact Z732
    have Z763 : n0 ≤ h751.size := Nat.le_trans Z732 E754.1
    replace A755 : own_A Z h751 a752 .int [.int (0 : Int32), .int (0 : Int32), .int (0 : Int32), .int (0 : Int32), .int (0 : Int32)] := A755
    refine own_astore (L' := #[.val (.int p1), .val (.int p2), .val (.int p3), .val (.int p4), .val (.ref a654), .val (.ref a673), .val (.int lo), .val (.int hi), .val (.ref a706), .val (.ref a752), .unset]) X749 hx (hb hby at_151) (q := 153) rfl rfl rfl ?_
    refine own_aload X749 hx (hb hby at_153) (q := 155) rfl rfl rfl ?_
    refine own_aload X749 hx (hb hby at_155) (q := 157) rfl rfl rfl ?_
    refine own_iconst X749 hx (v := (0 : Int32)) (hb hby at_157) (q := 158) rfl rfl ?_
    refine own_iaload X749 hx hZ (i := 0) (v := .int o0) e750 A757 (by decide) (by decide) rfl (hb hby at_158) (q := 159) rfl ?_
    refine own_iconst X749 hx (v := (0 : Int32)) (hb hby at_159) (q := 160) rfl rfl ?_
    refine own_iastore X749 hx hZ (i := (o0).toNatClampNeg) e750 A755 (own_nn5 ho.1.1) rfl (own_lt5 ho.1.1) (hb hby at_160) (q := 161) rfl (fun T764 h767 X765 e766 W768 A769 => ?_)
    replace A769 : own_A Z h767 a752 .int [.int (own_z_up o0 0 (0 : Int32) (0 : Int32)), .int (own_z_up o0 1 (0 : Int32) (0 : Int32)), .int (own_z_up o0 2 (0 : Int32) (0 : Int32)), .int (own_z_up o0 3 (0 : Int32) (0 : Int32)), .int (own_z_up o0 4 (0 : Int32) (0 : Int32))] := by rw [own_set5 ho.1.1] at A769; exact A769
    have A770 := A756.other W768 ne759
    have A771 := A757.other W768 ne760
    have A772 := A758.other W768 ne761
    have Z773 : n0 ≤ h767.size := W768.size ▸ Z763
    have N774 := Fr.snoc X765 N728 Z762
    refine own_aload X765 hx (hb hby at_161) (q := 163) rfl rfl rfl ?_
    refine own_aload X765 hx (hb hby at_163) (q := 165) rfl rfl rfl ?_
    refine own_iconst X765 hx (v := (1 : Int32)) (hb hby at_165) (q := 166) rfl rfl ?_
    refine own_iaload X765 hx hZ (i := 1) (v := .int o1) e766 A771 (by decide) (by decide) rfl (hb hby at_166) (q := 167) rfl ?_
    refine own_iconst X765 hx (v := (1 : Int32)) (hb hby at_167) (q := 168) rfl rfl ?_
    refine own_iastore X765 hx hZ (i := (o1).toNatClampNeg) e766 A769 (own_nn5 ho.1.2.1) rfl (own_lt5 ho.1.2.1) (hb hby at_168) (q := 169) rfl (fun T775 h778 X776 e777 W779 A780 => ?_)
    replace A780 : own_A Z h778 a752 .int [.int (own_z_up o1 0 (1 : Int32) (own_z_up o0 0 (0 : Int32) (0 : Int32))), .int (own_z_up o1 1 (1 : Int32) (own_z_up o0 1 (0 : Int32) (0 : Int32))), .int (own_z_up o1 2 (1 : Int32) (own_z_up o0 2 (0 : Int32) (0 : Int32))), .int (own_z_up o1 3 (1 : Int32) (own_z_up o0 3 (0 : Int32) (0 : Int32))), .int (own_z_up o1 4 (1 : Int32) (own_z_up o0 4 (0 : Int32) (0 : Int32)))] := by rw [own_set5 ho.1.2.1] at A780; exact A780
    have A781 := A770.other W779 ne759
    have A782 := A771.other W779 ne760
    have A783 := A772.other W779 ne761
    have Z784 : n0 ≤ h778.size := W779.size ▸ Z773
    have N785 := Fr.snoc X776 N774 Z762
    refine own_aload X776 hx (hb hby at_169) (q := 171) rfl rfl rfl ?_
    refine own_aload X776 hx (hb hby at_171) (q := 173) rfl rfl rfl ?_
    refine own_iconst X776 hx (v := (2 : Int32)) (hb hby at_173) (q := 174) rfl rfl ?_
    refine own_iaload X776 hx hZ (i := 2) (v := .int o2) e777 A782 (by decide) (by decide) rfl (hb hby at_174) (q := 175) rfl ?_
    refine own_iconst X776 hx (v := (2 : Int32)) (hb hby at_175) (q := 176) rfl rfl ?_
    refine own_iastore X776 hx hZ (i := (o2).toNatClampNeg) e777 A780 (own_nn5 ho.1.2.2.1) rfl (own_lt5 ho.1.2.2.1) (hb hby at_176) (q := 177) rfl (fun T786 h789 X787 e788 W790 A791 => ?_)
    replace A791 : own_A Z h789 a752 .int [.int (own_z_up o2 0 (2 : Int32) (own_z_up o1 0 (1 : Int32) (own_z_up o0 0 (0 : Int32) (0 : Int32)))), .int (own_z_up o2 1 (2 : Int32) (own_z_up o1 1 (1 : Int32) (own_z_up o0 1 (0 : Int32) (0 : Int32)))), .int (own_z_up o2 2 (2 : Int32) (own_z_up o1 2 (1 : Int32) (own_z_up o0 2 (0 : Int32) (0 : Int32)))), .int (own_z_up o2 3 (2 : Int32) (own_z_up o1 3 (1 : Int32) (own_z_up o0 3 (0 : Int32) (0 : Int32)))), .int (own_z_up o2 4 (2 : Int32) (own_z_up o1 4 (1 : Int32) (own_z_up o0 4 (0 : Int32) (0 : Int32))))] := by rw [own_set5 ho.1.2.2.1] at A791; exact A791
    have A792 := A781.other W790 ne759
    have A793 := A782.other W790 ne760
    have A794 := A783.other W790 ne761
    have Z795 : n0 ≤ h789.size := W790.size ▸ Z784
    have N796 := Fr.snoc X787 N785 Z762
    refine own_aload X787 hx (hb hby at_177) (q := 179) rfl rfl rfl ?_
    refine own_aload X787 hx (hb hby at_179) (q := 181) rfl rfl rfl ?_
    refine own_iconst X787 hx (v := (3 : Int32)) (hb hby at_181) (q := 182) rfl rfl ?_
    refine own_iaload X787 hx hZ (i := 3) (v := .int o3) e788 A793 (by decide) (by decide) rfl (hb hby at_182) (q := 183) rfl ?_
    refine own_iconst X787 hx (v := (3 : Int32)) (hb hby at_183) (q := 184) rfl rfl ?_
    refine own_iastore X787 hx hZ (i := (o3).toNatClampNeg) e788 A791 (own_nn5 ho.1.2.2.2.1) rfl (own_lt5 ho.1.2.2.2.1) (hb hby at_184) (q := 185) rfl (fun T797 h800 X798 e799 W801 A802 => ?_)
    replace A802 : own_A Z h800 a752 .int [.int (own_z_up o3 0 (3 : Int32) (own_z_up o2 0 (2 : Int32) (own_z_up o1 0 (1 : Int32) (own_z_up o0 0 (0 : Int32) (0 : Int32))))), .int (own_z_up o3 1 (3 : Int32) (own_z_up o2 1 (2 : Int32) (own_z_up o1 1 (1 : Int32) (own_z_up o0 1 (0 : Int32) (0 : Int32))))), .int (own_z_up o3 2 (3 : Int32) (own_z_up o2 2 (2 : Int32) (own_z_up o1 2 (1 : Int32) (own_z_up o0 2 (0 : Int32) (0 : Int32))))), .int (own_z_up o3 3 (3 : Int32) (own_z_up o2 3 (2 : Int32) (own_z_up o1 3 (1 : Int32) (own_z_up o0 3 (0 : Int32) (0 : Int32))))), .int (own_z_up o3 4 (3 : Int32) (own_z_up o2 4 (2 : Int32) (own_z_up o1 4 (1 : Int32) (own_z_up o0 4 (0 : Int32) (0 : Int32)))))] := by rw [own_set5 ho.1.2.2.2.1] at A802; exact A802
    have A803 := A792.other W801 ne759
    have A804 := A793.other W801 ne760
    have A805 := A794.other W801 ne761
    have Z806 : n0 ≤ h800.size := W801.size ▸ Z795
    have N807 := Fr.snoc X798 N796 Z762
    refine own_aload X798 hx (hb hby at_185) (q := 187) rfl rfl rfl ?_
    refine own_aload X798 hx (hb hby at_187) (q := 189) rfl rfl rfl ?_
    refine own_iconst X798 hx (v := (4 : Int32)) (hb hby at_189) (q := 190) rfl rfl ?_
    refine own_iaload X798 hx hZ (i := 4) (v := .int o4) e799 A804 (by decide) (by decide) rfl (hb hby at_190) (q := 191) rfl ?_
    refine own_iconst X798 hx (v := (4 : Int32)) (hb hby at_191) (q := 192) rfl rfl ?_
    refine own_iastore X798 hx hZ (i := (o4).toNatClampNeg) e799 A802 (own_nn5 ho.1.2.2.2.2) rfl (own_lt5 ho.1.2.2.2.2) (hb hby at_192) (q := 193) rfl (fun T808 h811 X809 e810 W812 A813 => ?_)
    replace A813 : own_A Z h811 a752 .int [.int (own_z_iv0 o0 o1 o2 o3 o4), .int (own_z_iv1 o0 o1 o2 o3 o4), .int (own_z_iv2 o0 o1 o2 o3 o4), .int (own_z_iv3 o0 o1 o2 o3 o4), .int (own_z_iv4 o0 o1 o2 o3 o4)] := by rw [own_set5 ho.1.2.2.2.2] at A813; exact A813
    have A814 := A803.other W812 ne759
    have A815 := A804.other W812 ne760
    have A816 := A805.other W812 ne761
    have Z817 : n0 ≤ h811.size := W812.size ▸ Z806
    have N818 := Fr.snoc X809 N807 Z762
    refine own_iconst X809 hx (v := (5 : Int32)) (hb hby at_193) (q := 194) rfl rfl ?_
    refine own_iload X809 hx (hb hby at_194) (q := 196) rfl rfl ?_
    refine own_iload X809 hx (hb hby at_196) (q := 198) rfl rfl ?_
    refine own_isub X809 hx (hb hby at_198) (q := 199) rfl ?_
    refine own_iconst X809 hx (v := (1 : Int32)) (hb hby at_199) (q := 200) rfl rfl ?_
    refine own_iadd X809 hx (hb hby at_200) (q := 201) rfl ?_
    refine own_isub X809 hx (hb hby at_201) (q := 202) rfl ?_
    refine own_istore (L' := #[.val (.int p1), .val (.int p2), .val (.int p3), .val (.int p4), .val (.ref a654), .val (.ref a673), .val (.int lo), .val (.int hi), .val (.ref a706), .val (.ref a752), .val (.int ((5 : Int32) - ((hi - lo) + (1 : Int32))))]) X809 hx (hb hby at_202) (q := 204) rfl rfl ?_
    refine own_aload X809 hx (hb hby at_204) (q := 206) rfl rfl rfl ?_
    refine own_aload X809 hx (hb hby at_206) (q := 208) rfl rfl rfl ?_
    refine own_iload X809 hx (hb hby at_208) (q := 210) rfl rfl ?_
    refine own_iload X809 hx (hb hby at_210) (q := 212) rfl rfl ?_
    refine own_iconst X809 hx (v := (0 : Int32)) (hb hby at_212) (q := 213) rfl rfl ?_
    refine own_callSP X809 hx hZ hown (hw _ (List.mem_of_getElem? (i := 23) rfl)) (hw _ (List.mem_of_getElem? (i := 24) rfl)) (hw _ (List.mem_of_getElem? (i := 2) rfl)) (hw _ (List.mem_of_getElem? (i := 25) rfl)) (by decide) (rm7_0 l Z a0 hw [] a706 a752 hi ((5 : Int32) - ((hi - lo) + (1 : Int32))) u0 u1 u2 u3 u4 (own_z_iv0 o0 o1 o2 o3 o4) (own_z_iv1 o0 o1 o2 o3 o4) (own_z_iv2 o0 o1 o2 o3 o4) (own_z_iv3 o0 o1 o2 o3 o4) (own_z_iv4 o0 o1 o2 o3 o4) h811 A816 A813 (own_z_rp1_0 hL) (own_z_rp2_0 hL) hPc ho0) own_pd6 rfl e810 (by rw [hml]; rfl) (argsL := [.ref a706, .ref a752, .int hi, .int ((5 : Int32) - ((hi - lo) + (1 : Int32))), .int (0 : Int32)]) (st := []) rfl (W := 0) (Nat.le_of_eq rfl) (by decide) (by decide) (by decide) (by decide) (hb hby at_213) (q := 216) rfl (fun T819 X820 e821 => ?_)
    refine own_if0P X820 hx (hb hby at_216) (cd := .eq) (x := own_f7_0 hi ((5 : Int32) - ((hi - lo) + (1 : Int32))) u0 u1 u2 u3 u4 (own_z_iv0 o0 o1 o2 o3 o4) (own_z_iv1 o0 o1 o2 o3 o4) (own_z_iv2 o0 o1 o2 o3 o4) (own_z_iv3 o0 o1 o2 o3 o4) (own_z_iv4 o0 o1 o2 o3 o4)) (pt := 268) (q := 219) (by decide) (by decide) rfl rfl (fun h => False.elim ((own_io0 : ¬ ((own_f7_0 hi ((5 : Int32) - ((hi - lo) + (1 : Int32))) u0 u1 u2 u3 u4 (own_z_iv0 o0 o1 o2 o3 o4) (own_z_iv1 o0 o1 o2 o3 o4) (own_z_iv2 o0 o1 o2 o3 o4) (own_z_iv3 o0 o1 o2 o3 o4) (own_z_iv4 o0 o1 o2 o3 o4)) = (0 : Int32))) h)) (fun _ => ?_)
    refine own_aload X820 hx (hb hby at_219) (q := 221) rfl rfl rfl ?_
    refine own_aload X820 hx (hb hby at_221) (q := 223) rfl rfl rfl ?_
    refine own_iload X820 hx (hb hby at_223) (q := 225) rfl rfl ?_
    refine own_iload X820 hx (hb hby at_225) (q := 227) rfl rfl ?_
    refine own_iconst X820 hx (v := (1 : Int32)) (hb hby at_227) (q := 228) rfl rfl ?_
    refine own_callSP X820 hx hZ hown (hw _ (List.mem_of_getElem? (i := 23) rfl)) (hw _ (List.mem_of_getElem? (i := 24) rfl)) (hw _ (List.mem_of_getElem? (i := 2) rfl)) (hw _ (List.mem_of_getElem? (i := 25) rfl)) (by decide) (rm7_1 l Z a0 hw [] a706 a752 hi ((5 : Int32) - ((hi - lo) + (1 : Int32))) u0 u1 u2 u3 u4 (own_z_iv0 o0 o1 o2 o3 o4) (own_z_iv1 o0 o1 o2 o3 o4) (own_z_iv2 o0 o1 o2 o3 o4) (own_z_iv3 o0 o1 o2 o3 o4) (own_z_iv4 o0 o1 o2 o3 o4) h811 A816 A813 (own_z_rp1_1 hL) (own_z_rp2_1 hL) hPc ho1) own_pd6 rfl e821 (by rw [hml]; rfl) (argsL := [.ref a706, .ref a752, .int hi, .int ((5 : Int32) - ((hi - lo) + (1 : Int32))), .int (1 : Int32)]) (st := []) rfl (W := 0) (Nat.le_of_eq rfl) (by decide) (by decide) (by decide) (by decide) (hb hby at_228) (q := 231) rfl (fun T822 X823 e824 => ?_)
    refine own_if0P X823 hx (hb hby at_231) (cd := .eq) (x := own_f7_1 hi ((5 : Int32) - ((hi - lo) + (1 : Int32))) u0 u1 u2 u3 u4 (own_z_iv0 o0 o1 o2 o3 o4) (own_z_iv1 o0 o1 o2 o3 o4) (own_z_iv2 o0 o1 o2 o3 o4) (own_z_iv3 o0 o1 o2 o3 o4) (own_z_iv4 o0 o1 o2 o3 o4)) (pt := 268) (q := 234) (by decide) (by decide) rfl rfl (fun h => False.elim ((own_io1 : ¬ ((own_f7_1 hi ((5 : Int32) - ((hi - lo) + (1 : Int32))) u0 u1 u2 u3 u4 (own_z_iv0 o0 o1 o2 o3 o4) (own_z_iv1 o0 o1 o2 o3 o4) (own_z_iv2 o0 o1 o2 o3 o4) (own_z_iv3 o0 o1 o2 o3 o4) (own_z_iv4 o0 o1 o2 o3 o4)) = (0 : Int32))) h)) (fun _ => ?_)
    refine own_aload X823 hx (hb hby at_234) (q := 236) rfl rfl rfl ?_
    refine own_aload X823 hx (hb hby at_236) (q := 238) rfl rfl rfl ?_
    refine own_iload X823 hx (hb hby at_238) (q := 240) rfl rfl ?_
    refine own_iload X823 hx (hb hby at_240) (q := 242) rfl rfl ?_
    refine own_iconst X823 hx (v := (2 : Int32)) (hb hby at_242) (q := 243) rfl rfl ?_
    refine own_callSP X823 hx hZ hown (hw _ (List.mem_of_getElem? (i := 23) rfl)) (hw _ (List.mem_of_getElem? (i := 24) rfl)) (hw _ (List.mem_of_getElem? (i := 2) rfl)) (hw _ (List.mem_of_getElem? (i := 25) rfl)) (by decide) (rm7_2 l Z a0 hw [] a706 a752 hi ((5 : Int32) - ((hi - lo) + (1 : Int32))) u0 u1 u2 u3 u4 (own_z_iv0 o0 o1 o2 o3 o4) (own_z_iv1 o0 o1 o2 o3 o4) (own_z_iv2 o0 o1 o2 o3 o4) (own_z_iv3 o0 o1 o2 o3 o4) (own_z_iv4 o0 o1 o2 o3 o4) h811 A816 A813 (own_z_rp1_2 hL) (own_z_rp2_2 hL) hPc ho2) own_pd6 rfl e824 (by rw [hml]; rfl) (argsL := [.ref a706, .ref a752, .int hi, .int ((5 : Int32) - ((hi - lo) + (1 : Int32))), .int (2 : Int32)]) (st := []) rfl (W := 0) (Nat.le_of_eq rfl) (by decide) (by decide) (by decide) (by decide) (hb hby at_243) (q := 246) rfl (fun T825 X826 e827 => ?_)
    refine own_if0P X826 hx (hb hby at_246) (cd := .eq) (x := own_f7_2 hi ((5 : Int32) - ((hi - lo) + (1 : Int32))) u0 u1 u2 u3 u4 (own_z_iv0 o0 o1 o2 o3 o4) (own_z_iv1 o0 o1 o2 o3 o4) (own_z_iv2 o0 o1 o2 o3 o4) (own_z_iv3 o0 o1 o2 o3 o4) (own_z_iv4 o0 o1 o2 o3 o4)) (pt := 268) (q := 249) (by decide) (by decide) rfl rfl (fun h => False.elim ((own_io2 : ¬ ((own_f7_2 hi ((5 : Int32) - ((hi - lo) + (1 : Int32))) u0 u1 u2 u3 u4 (own_z_iv0 o0 o1 o2 o3 o4) (own_z_iv1 o0 o1 o2 o3 o4) (own_z_iv2 o0 o1 o2 o3 o4) (own_z_iv3 o0 o1 o2 o3 o4) (own_z_iv4 o0 o1 o2 o3 o4)) = (0 : Int32))) h)) (fun _ => ?_)
    refine own_aload X826 hx (hb hby at_249) (q := 251) rfl rfl rfl ?_
    refine own_aload X826 hx (hb hby at_251) (q := 253) rfl rfl rfl ?_
    refine own_iload X826 hx (hb hby at_253) (q := 255) rfl rfl ?_
    refine own_iload X826 hx (hb hby at_255) (q := 257) rfl rfl ?_
    refine own_iconst X826 hx (v := (3 : Int32)) (hb hby at_257) (q := 258) rfl rfl ?_
    refine own_callSP X826 hx hZ hown (hw _ (List.mem_of_getElem? (i := 23) rfl)) (hw _ (List.mem_of_getElem? (i := 24) rfl)) (hw _ (List.mem_of_getElem? (i := 2) rfl)) (hw _ (List.mem_of_getElem? (i := 25) rfl)) (by decide) (rm7_3 l Z a0 hw [] a706 a752 hi ((5 : Int32) - ((hi - lo) + (1 : Int32))) u0 u1 u2 u3 u4 (own_z_iv0 o0 o1 o2 o3 o4) (own_z_iv1 o0 o1 o2 o3 o4) (own_z_iv2 o0 o1 o2 o3 o4) (own_z_iv3 o0 o1 o2 o3 o4) (own_z_iv4 o0 o1 o2 o3 o4) h811 A816 A813 (own_z_rp1_3 hL) (own_z_rp2_3 hL) hPc ho3) own_pd6 rfl e827 (by rw [hml]; rfl) (argsL := [.ref a706, .ref a752, .int hi, .int ((5 : Int32) - ((hi - lo) + (1 : Int32))), .int (3 : Int32)]) (st := []) rfl (W := 0) (Nat.le_of_eq rfl) (by decide) (by decide) (by decide) (by decide) (hb hby at_258) (q := 261) rfl (fun T828 X829 e830 => ?_)
    refine own_if0P X829 hx (hb hby at_261) (cd := .eq) (x := own_f7_3 hi ((5 : Int32) - ((hi - lo) + (1 : Int32))) u0 u1 u2 u3 u4 (own_z_iv0 o0 o1 o2 o3 o4) (own_z_iv1 o0 o1 o2 o3 o4) (own_z_iv2 o0 o1 o2 o3 o4) (own_z_iv3 o0 o1 o2 o3 o4) (own_z_iv4 o0 o1 o2 o3 o4)) (pt := 268) (q := 264) (by decide) (by decide) rfl rfl (fun h => False.elim ((own_io3 : ¬ ((own_f7_3 hi ((5 : Int32) - ((hi - lo) + (1 : Int32))) u0 u1 u2 u3 u4 (own_z_iv0 o0 o1 o2 o3 o4) (own_z_iv1 o0 o1 o2 o3 o4) (own_z_iv2 o0 o1 o2 o3 o4) (own_z_iv3 o0 o1 o2 o3 o4) (own_z_iv4 o0 o1 o2 o3 o4)) = (0 : Int32))) h)) (fun _ => ?_)
    refine own_iconst X829 hx (v := (1 : Int32)) (hb hby at_264) (q := 265) rfl rfl ?_
    refine own_goto X829 hx (hb hby at_265) (q := 269) (by decide) (by decide) ?_
    refine own_retN X829 hx hlk (t := .boolean) (by simp) Bd.returns (hb hby at_269) ?_ (by decide) (by decide)
    exact ⟨rfl, N818⟩
  exact J34 _ _ _ _ _ _ _ _ _ _ _ _ _ _ _ X668 rfl A676 A675 Z677 N672 (own_lh p3 p4) (own_pmP p1) (own_pmP p2)
set_option maxRecDepth 65536 in
set_option maxHeartbeats 40000000 in
theorem comes_1 {Post : Tables → Env → Array Value → State → Outcome → State → Prop} (hpost : ∀ tb e args s v u, (limb_1_1.after args s (.returned v) u = true ∧ limb_1_2.after args s (.returned v) u = true ∧ True) → FrameEnd s (.returned v) u (Jvm.fieldLocs frame_1_writes args s ++ Jvm.arrayLocs frame_1_arrays args s ++ Jvm.staticLocs frame_1_statics s) 24 128 → Post tb e args s (.returned v) u) :
    ArmFor flags0 classFile x code maxLocals ret World_1 tables_1 room_1 Calls_1 rest_1 Pre_1 Post := by
  intro l hfl _ _ p e ha hc hk s m args below hf hA hF happ hP
  obtain ⟨hcalls, hrest, hpre⟩ := hP
  obtain ⟨-, -, -, hnamed, -, -, -, hat⟩ := (Spec.applies_iff hf).mp happ
  obtain ⟨hg, hn⟩ := and_e (Cond.before_iff.mp (show (Jvm.Cond.and given_1 narrow_1).before args s = true from hpre))
  obtain ⟨h1, g0⟩ := and_e hg
  obtain ⟨k0, g1⟩ := and_e g0
  obtain ⟨k1, g2⟩ := and_e g1
  obtain ⟨k2, g3⟩ := and_e g2
  have k3 := g3
  obtain ⟨w0, w1, w2, w3, rfl⟩ : ∃ w0 w1 w2 w3 : Value, args = #[w0, w1, w2, w3] := by
    have hs : args.size = 4 := by simpa [Cond.value, given_1] using h1
    obtain ⟨L⟩ := args
    match L, hs with
    | [w0, w1, w2, w3], _ => exact ⟨w0, w1, w2, w3, rfl⟩
  have hw := fun d (hd : d ∈ tables_1) => atoms_spec (ws := Jvm.Cond.code x code maxLocals ret :: tables_1) hat d (List.mem_cons_of_mem _ hd)
  have hfit : Fit s := fun {y c} hc i hi => by
    obtain ⟨ha, rfl⟩ := Array.getElem?_eq_some_iff.mp hc
    have q := List.all_eq_true.mp ((Array.all_eq_true_iff_forall_mem.mp hF) _ (Array.getElem_mem ha)) i (List.mem_range.mpr hi)
    simpa [Array.getElem?_eq_getElem hi] using q
  obtain ⟨i0, e0⟩ := is_v k0
  obtain rfl : w0 = (.int i0) := Option.some.inj e0
  obtain ⟨i1, e1⟩ := is_v k1
  obtain rfl : w1 = (.int i1) := Option.some.inj e1
  obtain ⟨i2, e2⟩ := is_v k2
  obtain rfl : w2 = (.int i2) := Option.some.inj e2
  obtain ⟨i3, e3⟩ := is_v k3
  obtain rfl : w3 = (.int i3) := Option.some.inj e3
  obtain ⟨n, o, h1, h2, h3, _, L, rfl, ⟨rfl, N⟩, hq⟩ := rm0 l s _ hw tables_1 i0 i1 i2 i3 s.heap s.heap.size (Nat.le_refl _)  p e ha hc hk s m _ below hf ((Spec.applies_iff_loose hf).mp happ).1 ⟨rfl, State.Warmed39.refl s, rfl⟩ trivial
  refine ⟨n, _, h1, h2, h3, hpost _ _ _ _ _ _ ⟨Cond.after_iff.mpr rfl, Cond.after_iff.mpr (eq_i res_at (Term.int_eval (1)) rfl), trivial⟩ ⟨hq.1, hq.2.1, (hq.2.2.sift fun y hy => Or.inr (N y hy)).mono (by decide) (by decide)⟩⟩
theorem main_1_1 : Claimed_1_1 := comes_1 fun _ _ _ _ _ _ h hF => ⟨h.1, hF⟩
theorem main_1_2 : Claimed_1_2 := comes_1 fun _ _ _ _ _ _ h hF => ⟨h.2.1, hF⟩
end Jvm.Pilot.@@N@@
namespace Jvm.Pilot.@@N@@
open Jvm Jvm.ClassFile Sem Op Lib Jvm.Free Jvm.Stand Jvm.Pilot.@@N@@.Jvm.D
/-! MADE BY PROGRAM (witnessworld.py) out of the Statement's table words and the real class files: 11 classes; the members and pool entries that the words name. The judged class is class 1, her method 1. -/
namespace start1
open Jvm.ClassFile
def u (s : String) : CpInfo := .utf8 (stringToUtf16 s)
/-- a pool by its gaps: so many unusable entries, then the entry; so many at the end -/
def gap : Nat → List CpInfo → List CpInfo
  | 0, r => r
  | n + 1, r => .unusable :: gap n r
def poolList (es : List (Nat × CpInfo)) (last : Nat) : List CpInfo := es.foldr (fun e r => gap e.1 (e.2 :: r)) (gap last [])
def pool (es : List (Nat × CpInfo)) (last : Nat) : Array CpInfo := ⟨poolList es last⟩
def fileOf (pool : Array CpInfo) (this : Nat) (attrs : Array Attribute := #[]) (ms : Array MethodInfo := #[]) (fl : Nat := 33) (sup : Nat := 0) (ifs : Array Nat := #[]) (fds : Array FieldInfo := #[]) : ClassFile where
  minorVersion := 0
  majorVersion := 65
  constantPool := pool
  accessFlags := fl
  thisClass := this
  superClass := sup
  interfaces := ifs
  fields := fds
  methods := ms
  attributes := attrs
def plain (name : String) (sup : Option ClassId) : Class where
  name := name
  kind := .ordinary
  loader := none
  accessFlags := 33
  super := sup
  interfaces := #[]
  cf := none
  fields := #[]
  methods := #[]
  instanceTypes := #[]
  staticTypes := #[]
  resolved := #[]
  callSites := []
  init := .initialized
  statics := none
  mirror := none

def pool0 : Array CpInfo := pool [(5, u "<init>"), (0, u "()V"), (1, .class_ 10), (1, u "java/lang/Object")] 113

def k0m0 : Method := { name := "<init>", desc := "()V", sig := { parameters := [], returnType := none }, accessFlags := 1, code := none }
/-- java/lang/Object -/
def k0 : Class := { plain "java/lang/Object" none with
  accessFlags := 33
  interfaces := #[]
  cf := some (fileOf pool0 8 #[] #[{ accessFlags := 1, nameIndex := 5, descriptorIndex := 6, attributes := #[] }] 33 0 #[] #[])
  fields := #[]
  methods := #[k0m0]
  instanceTypes := #[]
  staticTypes := #[]
  resolved := Array.replicate 124 none
  statics := none }

def pool1 : Array CpInfo := pool [(2, .class_ 4), (1, u "java/lang/Object"), (0, u "<init>"), (0, u "()V"), (0, .methodref 8 9), (0, .class_ 10), (0, .nameAndType 11 12), (0, u "com/example/tourloom/tourloom/GeneticOperatorsOrderCrossoverPinLaw"), (0, u "perm"), (0, u "(I)[I"), (0, .integer 2147483647), (0, .methodref 15 16), (0, .class_ 17), (0, .nameAndType 18 19), (0, u "com/example/tourloom/tourloom/GeneticOperators"), (0, u "orderCrossover"), (0, u "([I[III)[I"), (0, .methodref 8 21), (0, .nameAndType 22 23), (0, u "isPerm"), (0, u "([I)Z"), (0, .methodref 8 25), (0, .nameAndType 26 27), (0, u "keptAt"), (0, u "([I[IIII)Z"), (0, .methodref 8 29), (0, .nameAndType 30 27), (0, u "inOrder"), (0, .methodref 8 32), (0, .nameAndType 33 34), (0, u "swap"), (0, u "([III)V"), (0, .methodref 8 36), (0, .nameAndType 37 38), (0, u "inRange"), (0, u "(I)Z"), (0, .methodref 8 40), (0, .nameAndType 41 42), (0, u "offset"), (0, u "([III)I"), (2, u "law"), (0, u "(IIII)Z")] 7

def k1m0 : Method := { name := "<init>", desc := "()V", sig := { parameters := [], returnType := none }, accessFlags := 2, code := none }
def k1c1 : Code := { maxStack := 5, maxLocals := 11, code := code, exceptionTable := #[], attributes := #[] }
def k1m1 : Method := { name := "law", desc := "(IIII)Z", sig := { parameters := [.int, .int, .int, .int], returnType := some .boolean }, accessFlags := 9, code := some k1c1 }
def k1c2 : Code := { maxStack := 4, maxLocals := 3, code := method_3_code, exceptionTable := #[], attributes := #[] }
def k1m2 : Method := { name := "perm", desc := "(I)[I", sig := { parameters := [.int], returnType := some (.array .int) }, accessFlags := 10, code := some k1c2 }
def k1c3 : Code := { maxStack := 4, maxLocals := 4, code := method_4_code, exceptionTable := #[], attributes := #[] }
def k1m3 : Method := { name := "swap", desc := "([III)V", sig := { parameters := [(.array .int), .int, .int], returnType := none }, accessFlags := 10, code := some k1c3 }
def k1c4 : Code := { maxStack := 2, maxLocals := 1, code := method_5_code, exceptionTable := #[], attributes := #[] }
def k1m4 : Method := { name := "inRange", desc := "(I)Z", sig := { parameters := [.int], returnType := some .boolean }, accessFlags := 10, code := some k1c4 }
def k1c5 : Code := { maxStack := 3, maxLocals := 2, code := method_6_code, exceptionTable := #[], attributes := #[] }
def k1m5 : Method := { name := "isPerm", desc := "([I)Z", sig := { parameters := [(.array .int)], returnType := some .boolean }, accessFlags := 10, code := some k1c5 }
def k1c6 : Code := { maxStack := 3, maxLocals := 5, code := method_7_code, exceptionTable := #[], attributes := #[] }
def k1m6 : Method := { name := "keptAt", desc := "([I[IIII)Z", sig := { parameters := [(.array .int), (.array .int), .int, .int, .int], returnType := some .boolean }, accessFlags := 10, code := some k1c6 }
def k1c7 : Code := { maxStack := 2, maxLocals := 3, code := method_8_code, exceptionTable := #[], attributes := #[] }
def k1m7 : Method := { name := "offset", desc := "([III)I", sig := { parameters := [(.array .int), .int, .int], returnType := some .int }, accessFlags := 10, code := some k1c7 }
def k1c8 : Code := { maxStack := 4, maxLocals := 7, code := method_9_code, exceptionTable := #[], attributes := #[] }
def k1m8 : Method := { name := "inOrder", desc := "([I[IIII)Z", sig := { parameters := [(.array .int), (.array .int), .int, .int, .int], returnType := some .boolean }, accessFlags := 10, code := some k1c8 }
/-- com/example/tourloom/tourloom/GeneticOperatorsOrderCrossoverPinLaw -/
def k1 : Class := { plain "com/example/tourloom/tourloom/GeneticOperatorsOrderCrossoverPinLaw" (some 0) with
  accessFlags := 49
  interfaces := #[]
  cf := some (fileOf pool1 8 #[] #[{ accessFlags := 2, nameIndex := 5, descriptorIndex := 6, attributes := #[] }, { accessFlags := 9, nameIndex := 45, descriptorIndex := 46, attributes := #[] }, { accessFlags := 10, nameIndex := 11, descriptorIndex := 12, attributes := #[] }, { accessFlags := 10, nameIndex := 33, descriptorIndex := 34, attributes := #[] }, { accessFlags := 10, nameIndex := 37, descriptorIndex := 38, attributes := #[] }, { accessFlags := 10, nameIndex := 22, descriptorIndex := 23, attributes := #[] }, { accessFlags := 10, nameIndex := 26, descriptorIndex := 27, attributes := #[] }, { accessFlags := 10, nameIndex := 41, descriptorIndex := 42, attributes := #[] }, { accessFlags := 10, nameIndex := 30, descriptorIndex := 27, attributes := #[] }] 49 2 #[] #[])
  fields := #[]
  methods := #[k1m0, k1m1, k1m2, k1m3, k1m4, k1m5, k1m6, k1m7, k1m8]
  instanceTypes := #[]
  staticTypes := #[]
  resolved := Array.replicate 54 none
  statics := none }

def pool2 : Array CpInfo := pool [(2, .class_ 4), (1, u "java/lang/Object"), (0, u "<init>"), (0, u "()V"), (1, .class_ 10), (1, u "com/example/tourloom/tourloom/GeneticOperators"), (6, u "orderCrossover"), (0, u "([I[III)[I")] 49

def k2m0 : Method := { name := "<init>", desc := "()V", sig := { parameters := [], returnType := none }, accessFlags := 2, code := none }
def k2c1 : Code := { maxStack := 4, maxLocals := 10, code := prog_15_method_3_code, exceptionTable := #[], attributes := #[] }
def k2m1 : Method := { name := "orderCrossover", desc := "([I[III)[I", sig := { parameters := [(.array .int), (.array .int), .int, .int], returnType := some (.array .int) }, accessFlags := 8, code := some k2c1 }
/-- com/example/tourloom/tourloom/GeneticOperators -/
def k2 : Class := { plain "com/example/tourloom/tourloom/GeneticOperators" (some 0) with
  accessFlags := 48
  interfaces := #[]
  cf := some (fileOf pool2 8 #[] #[{ accessFlags := 2, nameIndex := 5, descriptorIndex := 6, attributes := #[] }, { accessFlags := 8, nameIndex := 17, descriptorIndex := 18, attributes := #[] }] 48 2 #[] #[])
  fields := #[]
  methods := #[k2m0, k2m1]
  instanceTypes := #[]
  staticTypes := #[]
  resolved := Array.replicate 68 none
  statics := none }

def pool3 : Array CpInfo := pool [(1, u "java/lang/Cloneable"), (0, .class_ 1), (0, u "java/lang/Object"), (0, .class_ 3)] 3

/-- java/lang/Cloneable -/
def k3 : Class := { plain "java/lang/Cloneable" (some 0) with
  accessFlags := 1537
  interfaces := #[]
  cf := some (fileOf pool3 2 #[] #[] 1537 4 #[] #[])
  fields := #[]
  methods := #[]
  instanceTypes := #[]
  staticTypes := #[]
  resolved := Array.replicate 8 none
  statics := none }

def pool4 : Array CpInfo := pool [(1, u "java/io/Serializable"), (0, .class_ 1), (0, u "java/lang/Object"), (0, .class_ 3)] 3

/-- java/io/Serializable -/
def k4 : Class := { plain "java/io/Serializable" (some 0) with
  accessFlags := 1537
  interfaces := #[]
  cf := some (fileOf pool4 2 #[] #[] 1537 4 #[] #[])
  fields := #[]
  methods := #[]
  instanceTypes := #[]
  staticTypes := #[]
  resolved := Array.replicate 8 none
  statics := none }

/-- the primitive boolean -/
def k5 : Class := { plain "boolean" none with kind := .primitive 'Z', accessFlags := 0x411 }
/-- [Z -/
def k6 : Class := { plain "[Z" (some 0) with kind := .array 5 .boolean, interfaces := #[3, 4], accessFlags := 1041 }

/-- the primitive byte -/
def k7 : Class := { plain "byte" none with kind := .primitive 'B', accessFlags := 0x411 }
/-- [B -/
def k8 : Class := { plain "[B" (some 0) with kind := .array 7 .byte, interfaces := #[3, 4], accessFlags := 1041 }

/-- the primitive int -/
def k9 : Class := { plain "int" none with kind := .primitive 'I', accessFlags := 0x411 }
/-- [I -/
def k10 : Class := { plain "[I" (some 0) with kind := .array 9 .int, interfaces := #[3, 4], accessFlags := 1041 }

def heap : Heap := #[]
def classes : Array Class := #[k0, k1, k2, k3, k4, k5, k6, k7, k8, k9, k10]
def interned : List (Array UInt16 × Addr) := []
def slotsUsed : Nat := 0
def theMethod : MethodId := ⟨1, 1⟩
def args0 : Array Value := #[.int 5, .int 5, .int 5, .int 5]
def aboutOver (below : List Frame) : State where
  vm := { classes := classes, interned := interned.toArray }
  heap := heap
  slotsUsed := slotsUsed
  threads := #[{ frames := .invoking theMethod args0 :: below }]
def below0 : List Frame := [.native { method := ⟨0, 0⟩, args := #[] }]
def about1 : State := aboutOver below0
def p0 : Program := .bare "" "" ""
def e0 : Env := launch0.env 0 0 0
theorem w_frames : about1.frames = Frame.invoking theMethod args0 :: below0 := rfl
set_option maxRecDepth 65536 in
theorem w_args : argsFit about1.vm theMethod args0 = true := by decide +kernel
set_option maxRecDepth 65536 in
theorem w_heap : heapFits about1 = true := by decide +kernel
set_option maxRecDepth 65536 in
theorem w_runnable : about1.curStatus? = some .runnable := by decide +kernel
set_option maxRecDepth 65536 in
theorem w_alone : about1.alone = true := by decide +kernel
set_option maxRecDepth 65536 in
theorem w_named : about1.methodNamed? x = some theMethod := by decide +kernel
set_option maxRecDepth 65536 in
theorem w_hears : about1.hears theMethod below0 = true := by decide +kernel
set_option maxRecDepth 65536 in
theorem w_ripe : about1.ripe theMethod args0 below0 = true := by decide +kernel
theorem w_running : about1.status = .running := rfl
set_option maxRecDepth 65536 in
theorem w_room : about1.hasRoom e0.platform room_1 = true :=
  launch0.hasRoom_least _ room_1 (by decide +kernel) (by decide +kernel) (by decide +kernel) (by decide +kernel) (by decide +kernel) (by decide +kernel)
theorem allAtoms_all (ts : List Jvm.Cond) (a : Array Jvm.Value) (st : Jvm.State) : (allAtoms ts).before a st = ts.all (fun c => c.before a st) := by
  induction ts with
  | nil => rfl
  | cons c t ih =>
    show (Jvm.Cond.and c (allAtoms t)).before a st = _
    rw [Jvm.Cond.before_and, ih, List.all_cons]
def words1 : List Jvm.Cond := Jvm.Cond.code x code maxLocals ret :: tables_1
/-- a 'code' word, met by the world's own term for the bytes: nothing is compared byte by byte -/
theorem code_word {y : MethodName} {bytes : ByteArray} {mx : Nat} {rt : Option FieldType} {a : Array Value} {s : State} {m : MethodId} {meth : Method} {c : Code} (h1 : s.methodNamed? y = some m) (h2 : s.vm.method? m = some meth) (h3 : meth.code = some c) (h4 : c.code = bytes)
    (h5 : (c.maxLocals == mx && c.exceptionTable.isEmpty && decide (c.maxStack ≤ mostOperands) && decide (meth.sig.returnType = rt) && !meth.locks && decide (parseMethodDescriptor y.desc = some meth.sig)) = true) : (Jvm.Cond.code y bytes mx rt).before a s = true := by
  simp only [Bool.and_eq_true, beq_iff_eq, Bool.not_eq_true', decide_eq_true_eq] at h5
  obtain ⟨⟨⟨⟨⟨g1, g2⟩, g3⟩, g4⟩, g5⟩, g6⟩ := h5
  simp [Cond.before, Cond.holds, Cond.value, h1, h2, h3, h4, g1, g2, g3, g4, g5, g6]
def isCode : Jvm.Cond → Bool
  | .code _ _ _ _ => true
  | _ => false
theorem all_split {L : List Jvm.Cond} {P : Jvm.Cond → Bool} (h1 : L.all (fun c => isCode c || P c) = true) (h2 : ∀ c ∈ L.filter isCode, P c = true) : L.all P = true := by
  refine List.all_eq_true.mpr fun c hc => ?_
  have h := List.all_eq_true.mp h1 c hc
  rcases Bool.eq_false_or_eq_true (isCode c) with hi | hi
  · exact h2 c (List.mem_filter.mpr ⟨hc, hi⟩)
  · simpa [hi] using h
set_option maxRecDepth 65536 in
theorem w_c0 : (Jvm.Cond.code x code maxLocals ret).before args0 about1 = true := code_word (m := ⟨1, 1⟩) (meth := k1m1) (c := k1c1) (by decide +kernel) rfl rfl rfl (by decide +kernel)
set_option maxRecDepth 65536 in
theorem w_c1 : (Jvm.Cond.code ({ cls := "com/example/tourloom/tourloom/GeneticOperatorsOrderCrossoverPinLaw", name := "perm", desc := "(I)[I" } : Jvm.MethodName) method_3_code (3 : Nat) (Option.some (Jvm.ClassFile.FieldType.array Jvm.ClassFile.FieldType.int))).before args0 about1 = true := code_word (m := ⟨1, 2⟩) (meth := k1m2) (c := k1c2) (by decide +kernel) rfl rfl rfl (by decide +kernel)
set_option maxRecDepth 65536 in
theorem w_c2 : (Jvm.Cond.code ({ cls := "com/example/tourloom/tourloom/GeneticOperatorsOrderCrossoverPinLaw", name := "swap", desc := "([III)V" } : Jvm.MethodName) method_4_code (4 : Nat) (Option.none : Option Jvm.ClassFile.FieldType)).before args0 about1 = true := code_word (m := ⟨1, 3⟩) (meth := k1m3) (c := k1c3) (by decide +kernel) rfl rfl rfl (by decide +kernel)
set_option maxRecDepth 65536 in
theorem w_c3 : (Jvm.Cond.code ({ cls := "com/example/tourloom/tourloom/GeneticOperators", name := "orderCrossover", desc := "([I[III)[I" } : Jvm.MethodName) prog_15_method_3_code (10 : Nat) (Option.some (Jvm.ClassFile.FieldType.array Jvm.ClassFile.FieldType.int))).before args0 about1 = true := code_word (m := ⟨2, 1⟩) (meth := k2m1) (c := k2c1) (by decide +kernel) rfl rfl rfl (by decide +kernel)
set_option maxRecDepth 65536 in
theorem w_c4 : (Jvm.Cond.code ({ cls := "com/example/tourloom/tourloom/GeneticOperatorsOrderCrossoverPinLaw", name := "isPerm", desc := "([I)Z" } : Jvm.MethodName) method_6_code (2 : Nat) (Option.some Jvm.ClassFile.FieldType.boolean)).before args0 about1 = true := code_word (m := ⟨1, 5⟩) (meth := k1m5) (c := k1c5) (by decide +kernel) rfl rfl rfl (by decide +kernel)
set_option maxRecDepth 65536 in
theorem w_c5 : (Jvm.Cond.code ({ cls := "com/example/tourloom/tourloom/GeneticOperatorsOrderCrossoverPinLaw", name := "inRange", desc := "(I)Z" } : Jvm.MethodName) method_5_code (1 : Nat) (Option.some Jvm.ClassFile.FieldType.boolean)).before args0 about1 = true := code_word (m := ⟨1, 4⟩) (meth := k1m4) (c := k1c4) (by decide +kernel) rfl rfl rfl (by decide +kernel)
set_option maxRecDepth 65536 in
theorem w_c6 : (Jvm.Cond.code ({ cls := "com/example/tourloom/tourloom/GeneticOperatorsOrderCrossoverPinLaw", name := "keptAt", desc := "([I[IIII)Z" } : Jvm.MethodName) method_7_code (5 : Nat) (Option.some Jvm.ClassFile.FieldType.boolean)).before args0 about1 = true := code_word (m := ⟨1, 6⟩) (meth := k1m6) (c := k1c6) (by decide +kernel) rfl rfl rfl (by decide +kernel)
set_option maxRecDepth 65536 in
theorem w_c7 : (Jvm.Cond.code ({ cls := "com/example/tourloom/tourloom/GeneticOperatorsOrderCrossoverPinLaw", name := "inOrder", desc := "([I[IIII)Z" } : Jvm.MethodName) method_9_code (7 : Nat) (Option.some Jvm.ClassFile.FieldType.boolean)).before args0 about1 = true := code_word (m := ⟨1, 8⟩) (meth := k1m8) (c := k1c8) (by decide +kernel) rfl rfl rfl (by decide +kernel)
set_option maxRecDepth 65536 in
theorem w_c8 : (Jvm.Cond.code ({ cls := "com/example/tourloom/tourloom/GeneticOperatorsOrderCrossoverPinLaw", name := "offset", desc := "([III)I" } : Jvm.MethodName) method_8_code (3 : Nat) (Option.some Jvm.ClassFile.FieldType.int)).before args0 about1 = true := code_word (m := ⟨1, 7⟩) (meth := k1m7) (c := k1c7) (by decide +kernel) rfl rfl rfl (by decide +kernel)
def codes1 : List Jvm.Cond := [Jvm.Cond.code x code maxLocals ret, Jvm.Cond.code ({ cls := "com/example/tourloom/tourloom/GeneticOperatorsOrderCrossoverPinLaw", name := "perm", desc := "(I)[I" } : Jvm.MethodName) method_3_code (3 : Nat) (Option.some (Jvm.ClassFile.FieldType.array Jvm.ClassFile.FieldType.int)), Jvm.Cond.code ({ cls := "com/example/tourloom/tourloom/GeneticOperatorsOrderCrossoverPinLaw", name := "swap", desc := "([III)V" } : Jvm.MethodName) method_4_code (4 : Nat) (Option.none : Option Jvm.ClassFile.FieldType), Jvm.Cond.code ({ cls := "com/example/tourloom/tourloom/GeneticOperators", name := "orderCrossover", desc := "([I[III)[I" } : Jvm.MethodName) prog_15_method_3_code (10 : Nat) (Option.some (Jvm.ClassFile.FieldType.array Jvm.ClassFile.FieldType.int)), Jvm.Cond.code ({ cls := "com/example/tourloom/tourloom/GeneticOperatorsOrderCrossoverPinLaw", name := "isPerm", desc := "([I)Z" } : Jvm.MethodName) method_6_code (2 : Nat) (Option.some Jvm.ClassFile.FieldType.boolean), Jvm.Cond.code ({ cls := "com/example/tourloom/tourloom/GeneticOperatorsOrderCrossoverPinLaw", name := "inRange", desc := "(I)Z" } : Jvm.MethodName) method_5_code (1 : Nat) (Option.some Jvm.ClassFile.FieldType.boolean), Jvm.Cond.code ({ cls := "com/example/tourloom/tourloom/GeneticOperatorsOrderCrossoverPinLaw", name := "keptAt", desc := "([I[IIII)Z" } : Jvm.MethodName) method_7_code (5 : Nat) (Option.some Jvm.ClassFile.FieldType.boolean), Jvm.Cond.code ({ cls := "com/example/tourloom/tourloom/GeneticOperatorsOrderCrossoverPinLaw", name := "inOrder", desc := "([I[IIII)Z" } : Jvm.MethodName) method_9_code (7 : Nat) (Option.some Jvm.ClassFile.FieldType.boolean), Jvm.Cond.code ({ cls := "com/example/tourloom/tourloom/GeneticOperatorsOrderCrossoverPinLaw", name := "offset", desc := "([III)I" } : Jvm.MethodName) method_8_code (3 : Nat) (Option.some Jvm.ClassFile.FieldType.int)]
set_option maxRecDepth 65536 in
theorem codes_eq : words1.filter isCode = codes1 := rfl
theorem w_codes : ∀ c ∈ words1.filter isCode, c.before args0 about1 = true := by
  rw [codes_eq]
  intro c hc
  simp only [codes1, List.mem_cons, List.not_mem_nil, or_false] at hc
  rcases hc with rfl | rfl | rfl | rfl | rfl | rfl | rfl | rfl | rfl
  · exact w_c0
  · exact w_c1
  · exact w_c2
  · exact w_c3
  · exact w_c4
  · exact w_c5
  · exact w_c6
  · exact w_c7
  · exact w_c8
set_option maxRecDepth 65536 in
theorem w_t1 : (words1.take 24).all (fun c => isCode c || c.before args0 about1) = true := by decide +kernel
set_option maxRecDepth 65536 in
theorem w_t2 : (words1.drop 24).all (fun c => isCode c || c.before args0 about1) = true := by decide +kernel
theorem w_tables : (allAtoms (Jvm.Cond.code x code maxLocals ret :: tables_1)).before args0 about1 = true := by
  rw [allAtoms_all]
  show words1.all (fun c => c.before args0 about1) = true
  refine all_split ?_ w_codes
  rw [← List.take_append_drop 24 words1, List.all_append, w_t1, w_t2]
  rfl
set_option maxRecDepth 65536 in
theorem w_case : (Jvm.Cond.and given_1 narrow_1).before args0 about1 = true := by decide +kernel
theorem w_applies : (headSpec (Jvm.Cond.code x code maxLocals ret :: tables_1) room_1).applies x e0.platform about1 = true :=
  (Spec.applies_iff w_frames).mpr ⟨w_running, w_runnable, w_alone, w_named, w_hears, w_ripe, w_room, w_tables⟩
theorem atStart : AtStart classFile x code maxLocals ret World_1 tables_1 room_1 Calls_1 rest_1 Pre_1 launch0 p0 e0 about1 theMethod args0 below0 :=
  ⟨lists_1, trivial, launch0.admits_env _ _ _, launch0.least_env, fairChoices_fair.cas, fairChoices_fair.clock, w_frames, w_args, w_heap, w_applies, trivial, trivial, w_case⟩
end start1
theorem witness_1 : WitnessClaimed_1 := ⟨start1.p0, start1.e0, start1.about1, start1.theMethod, start1.args0, start1.below0, start1.atStart⟩
end Jvm.Pilot.@@N@@
