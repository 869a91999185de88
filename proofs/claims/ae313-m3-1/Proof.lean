import JvmDerived
import JvmDerived.Pilot.@@N@@Statement
import JvmDerived.Pilot.@@N@@Code
set_option linter.unusedVariables false
set_option linter.unusedSimpArgs false
namespace Jvm.Pilot.@@N@@
open Jvm Jvm.ClassFile Sem Op Lib Jvm.Free Jvm.Stand Jvm.LawKit Jvm.RoadKit Bundle Jvm.Pilot.@@N@@.Jvm.D
section OwnKit
variable {p : Program} {l : Launch} {e : Env} {R : Room} {s : State} {m : MethodId} {args : Array Value} {below : List Frame} {meth : Method} {c : Code} {T : State} {locs : List Loc} {cells slots kc ks : Nat} {Q : Option Value → Heap → List Loc → Prop} {P : Outcome → State → Prop} {pc q : Nat} {Ls L' : Array Slot} {st : List Value}
def own_Go (p : Program) (e : Env) (below : List Frame) (P : Outcome → State → Prop) (U : State) : Prop :=
  ∃ s₂ o, Steps p.tables e below U s₂ ∧ s₂.status = .running ∧ Ended s₂ below o ∧ P o s₂
def own_E (s : State) (kc ks : Nat) (Q : Option Value → Heap → List Loc → Prop) (o : Outcome) (t : State) : Prop := ∃ v L, o = .returned v ∧ Q v t.heap L ∧ FrameEnd s o t L kc ks
theorem own_via {U V : State} (h : ∀ t, Steps p.tables e below V t → Steps p.tables e below U t) (K : own_Go p e below P V) : own_Go p e below P U := by
  obtain ⟨a, b, h1, r⟩ := K; exact ⟨a, b, h _ h1, r⟩
theorem own_mono {P' : Outcome → State → Prop} {U : State} (h : ∀ o t, P' o t → P o t) (K : own_Go p e below P' U) : own_Go p e below P U := by
  obtain ⟨a, b, h1, h2, h3, h4⟩ := K; exact ⟨a, b, h1, h2, h3, h _ _ h4⟩
def own_P (w : Value) (h : Heap) (v : Option Value) (h' : Heap) (L : List Loc) : Prop := v = some w ∧ h' = h ∧ L = []
theorem own_iadd (X : Stand p l e R s m args below meth c T locs cells slots) (hx : p.tables.exec = Jvm.exec) {x y : Int32} (hd : decode c.code pc = .ok (.iadd, 1)) (hq : pc + 1 = q)  (K : own_Go p e below P (T.setTop (mkF m q Ls (.int (x + y) :: st)))) : own_Go p e below P (T.setTop (mkF m pc Ls (.int y :: .int x :: st))) := by
  subst hq; exact own_via (fun t => XS.iadd X.here hx rfl hd rfl) K
theorem own_isub (X : Stand p l e R s m args below meth c T locs cells slots) (hx : p.tables.exec = Jvm.exec) {x y : Int32} (hd : decode c.code pc = .ok (.isub, 1)) (hq : pc + 1 = q)  (K : own_Go p e below P (T.setTop (mkF m q Ls (.int (x - y) :: st)))) : own_Go p e below P (T.setTop (mkF m pc Ls (.int y :: .int x :: st))) := by
  subst hq; exact own_via (fun t => XS.isub X.here hx rfl hd rfl) K
theorem own_imul (X : Stand p l e R s m args below meth c T locs cells slots) (hx : p.tables.exec = Jvm.exec) {x y : Int32} (hd : decode c.code pc = .ok (.imul, 1)) (hq : pc + 1 = q)  (K : own_Go p e below P (T.setTop (mkF m q Ls (.int (x * y) :: st)))) : own_Go p e below P (T.setTop (mkF m pc Ls (.int y :: .int x :: st))) := by
  subst hq; exact own_via (fun t => XS.imul X.here hx rfl hd rfl) K
theorem own_iand (X : Stand p l e R s m args below meth c T locs cells slots) (hx : p.tables.exec = Jvm.exec) {x y : Int32} (hd : decode c.code pc = .ok (.iand, 1)) (hq : pc + 1 = q)  (K : own_Go p e below P (T.setTop (mkF m q Ls (.int (x &&& y) :: st)))) : own_Go p e below P (T.setTop (mkF m pc Ls (.int y :: .int x :: st))) := by
  subst hq; exact own_via (fun t => XS.iand X.here hx rfl hd rfl) K
theorem own_ixor (X : Stand p l e R s m args below meth c T locs cells slots) (hx : p.tables.exec = Jvm.exec) {x y : Int32} (hd : decode c.code pc = .ok (.ixor, 1)) (hq : pc + 1 = q)  (K : own_Go p e below P (T.setTop (mkF m q Ls (.int (x ^^^ y) :: st)))) : own_Go p e below P (T.setTop (mkF m pc Ls (.int y :: .int x :: st))) := by
  subst hq; exact own_via (fun t => XT.ixor X.here hx rfl hd rfl) K
theorem own_ior (X : Stand p l e R s m args below meth c T locs cells slots) (hx : p.tables.exec = Jvm.exec) {x y : Int32} (hd : decode c.code pc = .ok (.ior, 1)) (hq : pc + 1 = q)  (K : own_Go p e below P (T.setTop (mkF m q Ls (.int (x ||| y) :: st)))) : own_Go p e below P (T.setTop (mkF m pc Ls (.int y :: .int x :: st))) := by
  subst hq; exact own_via (fun t => XT.ior X.here hx rfl hd rfl) K
theorem own_ishl (X : Stand p l e R s m args below meth c T locs cells slots) (hx : p.tables.exec = Jvm.exec) {x y : Int32} (hd : decode c.code pc = .ok (.ishl, 1)) (hq : pc + 1 = q)  (K : own_Go p e below P (T.setTop (mkF m q Ls (.int (x <<< (y &&& 31)) :: st)))) : own_Go p e below P (T.setTop (mkF m pc Ls (.int y :: .int x :: st))) := by
  subst hq; exact own_via (fun t => XT.ishl X.here hx rfl hd rfl) K
theorem own_ishr (X : Stand p l e R s m args below meth c T locs cells slots) (hx : p.tables.exec = Jvm.exec) {x y : Int32} (hd : decode c.code pc = .ok (.ishr, 1)) (hq : pc + 1 = q)  (K : own_Go p e below P (T.setTop (mkF m q Ls (.int (x >>> (y &&& 31)) :: st)))) : own_Go p e below P (T.setTop (mkF m pc Ls (.int y :: .int x :: st))) := by
  subst hq; exact own_via (fun t => XT.ishr X.here hx rfl hd rfl) K
theorem own_iushr (X : Stand p l e R s m args below meth c T locs cells slots) (hx : p.tables.exec = Jvm.exec) {x y : Int32} (hd : decode c.code pc = .ok (.iushr, 1)) (hq : pc + 1 = q)  (K : own_Go p e below P (T.setTop (mkF m q Ls (.int (XT.ushr x y) :: st)))) : own_Go p e below P (T.setTop (mkF m pc Ls (.int y :: .int x :: st))) := by
  subst hq; exact own_via (fun t => XT.iushr X.here hx rfl hd rfl) K
theorem own_idiv (X : Stand p l e R s m args below meth c T locs cells slots) (hx : p.tables.exec = Jvm.exec) {x y : Int32} (hd : decode c.code pc = .ok (.idiv, 1)) (hq : pc + 1 = q) (hy : y ≠ 0) (K : own_Go p e below P (T.setTop (mkF m q Ls (.int (x / y) :: st)))) : own_Go p e below P (T.setTop (mkF m pc Ls (.int y :: .int x :: st))) := by
  subst hq; exact own_via (fun t => XS.idiv X.here hx rfl hd rfl hy) K
theorem own_irem (X : Stand p l e R s m args below meth c T locs cells slots) (hx : p.tables.exec = Jvm.exec) {x y : Int32} (hd : decode c.code pc = .ok (.irem, 1)) (hq : pc + 1 = q) (hy : y ≠ 0) (K : own_Go p e below P (T.setTop (mkF m q Ls (.int (x % y) :: st)))) : own_Go p e below P (T.setTop (mkF m pc Ls (.int y :: .int x :: st))) := by
  subst hq; exact own_via (fun t => iremM X hx rfl hd rfl hy) K
theorem own_ineg (X : Stand p l e R s m args below meth c T locs cells slots) (hx : p.tables.exec = Jvm.exec) {x : Int32} (hd : decode c.code pc = .ok (.ineg, 1)) (hq : pc + 1 = q)  (K : own_Go p e below P (T.setTop (mkF m q Ls (.int (-x) :: st)))) : own_Go p e below P (T.setTop (mkF m pc Ls (.int x :: st))) := by
  subst hq; exact own_via (fun t => XS.ineg X.here hx rfl hd rfl) K
theorem own_ladd (X : Stand p l e R s m args below meth c T locs cells slots) (hx : p.tables.exec = Jvm.exec) {x y : Int64} (hd : decode c.code pc = .ok (.ladd, 1)) (hq : pc + 1 = q)  (K : own_Go p e below P (T.setTop (mkF m q Ls (.long (x + y) :: st)))) : own_Go p e below P (T.setTop (mkF m pc Ls (.long y :: .long x :: st))) := by
  subst hq; exact own_via (fun t => XT.ladd X.here hx rfl hd rfl) K
theorem own_lsub (X : Stand p l e R s m args below meth c T locs cells slots) (hx : p.tables.exec = Jvm.exec) {x y : Int64} (hd : decode c.code pc = .ok (.lsub, 1)) (hq : pc + 1 = q)  (K : own_Go p e below P (T.setTop (mkF m q Ls (.long (x - y) :: st)))) : own_Go p e below P (T.setTop (mkF m pc Ls (.long y :: .long x :: st))) := by
  subst hq; exact own_via (fun t => XT.lsub X.here hx rfl hd rfl) K
theorem own_lmul (X : Stand p l e R s m args below meth c T locs cells slots) (hx : p.tables.exec = Jvm.exec) {x y : Int64} (hd : decode c.code pc = .ok (.lmul, 1)) (hq : pc + 1 = q)  (K : own_Go p e below P (T.setTop (mkF m q Ls (.long (x * y) :: st)))) : own_Go p e below P (T.setTop (mkF m pc Ls (.long y :: .long x :: st))) := by
  subst hq; exact own_via (fun t => XT.lmul X.here hx rfl hd rfl) K
theorem own_land (X : Stand p l e R s m args below meth c T locs cells slots) (hx : p.tables.exec = Jvm.exec) {x y : Int64} (hd : decode c.code pc = .ok (.land, 1)) (hq : pc + 1 = q)  (K : own_Go p e below P (T.setTop (mkF m q Ls (.long (x &&& y) :: st)))) : own_Go p e below P (T.setTop (mkF m pc Ls (.long y :: .long x :: st))) := by
  subst hq; exact own_via (fun t => XT.land X.here hx rfl hd rfl) K
theorem own_lor (X : Stand p l e R s m args below meth c T locs cells slots) (hx : p.tables.exec = Jvm.exec) {x y : Int64} (hd : decode c.code pc = .ok (.lor, 1)) (hq : pc + 1 = q)  (K : own_Go p e below P (T.setTop (mkF m q Ls (.long (x ||| y) :: st)))) : own_Go p e below P (T.setTop (mkF m pc Ls (.long y :: .long x :: st))) := by
  subst hq; exact own_via (fun t => XT.lor X.here hx rfl hd rfl) K
theorem own_lxor (X : Stand p l e R s m args below meth c T locs cells slots) (hx : p.tables.exec = Jvm.exec) {x y : Int64} (hd : decode c.code pc = .ok (.lxor, 1)) (hq : pc + 1 = q)  (K : own_Go p e below P (T.setTop (mkF m q Ls (.long (x ^^^ y) :: st)))) : own_Go p e below P (T.setTop (mkF m pc Ls (.long y :: .long x :: st))) := by
  subst hq; exact own_via (fun t => XT.lxor X.here hx rfl hd rfl) K
theorem own_ldiv (X : Stand p l e R s m args below meth c T locs cells slots) (hx : p.tables.exec = Jvm.exec) {x y : Int64} (hd : decode c.code pc = .ok (.ldiv, 1)) (hq : pc + 1 = q) (hy : y ≠ 0) (K : own_Go p e below P (T.setTop (mkF m q Ls (.long (x / y) :: st)))) : own_Go p e below P (T.setTop (mkF m pc Ls (.long y :: .long x :: st))) := by
  subst hq; exact own_via (fun t => XT.ldiv X.here hx rfl hd rfl hy) K
theorem own_lshl (X : Stand p l e R s m args below meth c T locs cells slots) (hx : p.tables.exec = Jvm.exec) {x : Int64} {y : Int32} (hd : decode c.code pc = .ok (.lshl, 1)) (hq : pc + 1 = q)  (K : own_Go p e below P (T.setTop (mkF m q Ls (.long (x <<< (y.toInt64 &&& 63)) :: st)))) : own_Go p e below P (T.setTop (mkF m pc Ls (.int y :: .long x :: st))) := by
  subst hq; exact own_via (fun t => XT.lshl X.here hx rfl hd rfl) K
theorem own_lshr (X : Stand p l e R s m args below meth c T locs cells slots) (hx : p.tables.exec = Jvm.exec) {x : Int64} {y : Int32} (hd : decode c.code pc = .ok (.lshr, 1)) (hq : pc + 1 = q)  (K : own_Go p e below P (T.setTop (mkF m q Ls (.long (x >>> (y.toInt64 &&& 63)) :: st)))) : own_Go p e below P (T.setTop (mkF m pc Ls (.int y :: .long x :: st))) := by
  subst hq; exact own_via (fun t => XT.lshr X.here hx rfl hd rfl) K
theorem own_lushr (X : Stand p l e R s m args below meth c T locs cells slots) (hx : p.tables.exec = Jvm.exec) {x : Int64} {y : Int32} (hd : decode c.code pc = .ok (.lushr, 1)) (hq : pc + 1 = q)  (K : own_Go p e below P (T.setTop (mkF m q Ls (.long (XT.ushrL x y) :: st)))) : own_Go p e below P (T.setTop (mkF m pc Ls (.int y :: .long x :: st))) := by
  subst hq; exact own_via (fun t => XT.lushr X.here hx rfl hd rfl) K
theorem own_i2l (X : Stand p l e R s m args below meth c T locs cells slots) (hx : p.tables.exec = Jvm.exec) {x : Int32} (hd : decode c.code pc = .ok (.i2l, 1)) (hq : pc + 1 = q)  (K : own_Go p e below P (T.setTop (mkF m q Ls (.long x.toInt64 :: st)))) : own_Go p e below P (T.setTop (mkF m pc Ls (.int x :: st))) := by
  subst hq; exact own_via (fun t => XT.i2l X.here hx rfl hd rfl) K
theorem own_l2i (X : Stand p l e R s m args below meth c T locs cells slots) (hx : p.tables.exec = Jvm.exec) {x : Int64} (hd : decode c.code pc = .ok (.l2i, 1)) (hq : pc + 1 = q)  (K : own_Go p e below P (T.setTop (mkF m q Ls (.int x.toInt32 :: st)))) : own_Go p e below P (T.setTop (mkF m pc Ls (.long x :: st))) := by
  subst hq; exact own_via (fun t => XT.l2i X.here hx rfl hd rfl) K
theorem own_i2c (X : Stand p l e R s m args below meth c T locs cells slots) (hx : p.tables.exec = Jvm.exec) {x : Int32} (hd : decode c.code pc = .ok (.i2c, 1)) (hq : pc + 1 = q)  (K : own_Go p e below P (T.setTop (mkF m q Ls (.int x.toUInt32.toUInt16.toUInt32.toInt32 :: st)))) : own_Go p e below P (T.setTop (mkF m pc Ls (.int x :: st))) := by
  subst hq; exact own_via (fun t => XT.i2c X.here hx rfl hd rfl) K
theorem own_i2b (X : Stand p l e R s m args below meth c T locs cells slots) (hx : p.tables.exec = Jvm.exec) {x : Int32} (hd : decode c.code pc = .ok (.i2b, 1)) (hq : pc + 1 = q)  (K : own_Go p e below P (T.setTop (mkF m q Ls (.int x.toInt8.toInt32 :: st)))) : own_Go p e below P (T.setTop (mkF m pc Ls (.int x :: st))) := by
  subst hq; exact own_via (fun t => XT.i2b X.here hx rfl hd rfl) K
theorem own_lcmp (X : Stand p l e R s m args below meth c T locs cells slots) (hx : p.tables.exec = Jvm.exec) {x y : Int64} (hd : decode c.code pc = .ok (.lcmp, 1)) (hq : pc + 1 = q)  (K : own_Go p e below P (T.setTop (mkF m q Ls (.int (XT.cmpL x y) :: st)))) : own_Go p e below P (T.setTop (mkF m pc Ls (.long y :: .long x :: st))) := by
  subst hq; exact own_via (fun t => XT.lcmp X.here hx rfl hd rfl) K
theorem own_iconst (X : Stand p l e R s m args below meth c T locs cells slots) (hx : p.tables.exec = Jvm.exec) {i : Int} (v : Int32) (hd : decode c.code pc = .ok (.iconst i, 1)) (hq : pc + 1 = q) (hv : Int32.ofInt i = v) (K : own_Go p e below P (T.setTop (mkF m q Ls (.int v :: st)))) : own_Go p e below P (T.setTop (mkF m pc Ls st)) := by
  subst hq; exact own_via (fun t => XT.iconstV (v := v) X.here hx rfl hd hv) K
theorem own_bipush (X : Stand p l e R s m args below meth c T locs cells slots) (hx : p.tables.exec = Jvm.exec) {i : Int} (v : Int32) (hd : decode c.code pc = .ok (.bipush i, 2)) (hq : pc + 2 = q) (hv : (Int8.ofInt i).toInt32 = v) (K : own_Go p e below P (T.setTop (mkF m q Ls (.int v :: st)))) : own_Go p e below P (T.setTop (mkF m pc Ls st)) := by
  subst hq; exact own_via (fun t => XT.bipushV (v := v) X.here hx rfl hd hv) K
theorem own_sipush (X : Stand p l e R s m args below meth c T locs cells slots) (hx : p.tables.exec = Jvm.exec) {i : Int} (v : Int32) (hd : decode c.code pc = .ok (.sipush i, 3)) (hq : pc + 3 = q) (hv : (Int16.ofInt i).toInt32 = v) (K : own_Go p e below P (T.setTop (mkF m q Ls (.int v :: st)))) : own_Go p e below P (T.setTop (mkF m pc Ls st)) := by
  subst hq; exact own_via (fun t => XT.sipushV (v := v) X.here hx rfl hd hv) K
theorem own_lconst (X : Stand p l e R s m args below meth c T locs cells slots) (hx : p.tables.exec = Jvm.exec) {i : Fin 2} (v : Int64) (hd : decode c.code pc = .ok (.lconst i, 1)) (hq : pc + 1 = q) (hv : Int64.ofNat i = v) (K : own_Go p e below P (T.setTop (mkF m q Ls (.long v :: st)))) : own_Go p e below P (T.setTop (mkF m pc Ls st)) := by
  subst hq; exact own_via (fun t => XT.lconstV (v := v) X.here hx rfl hd hv) K
theorem own_aconstNull (X : Stand p l e R s m args below meth c T locs cells slots) (hx : p.tables.exec = Jvm.exec)  (hd : decode c.code pc = .ok (.aconst_null, 1)) (hq : pc + 1 = q)  (K : own_Go p e below P (T.setTop (mkF m q Ls (.null :: st)))) : own_Go p e below P (T.setTop (mkF m pc Ls st)) := by
  subst hq; exact own_via (fun t => XS.aconstNull X.here hx rfl hd ) K
theorem own_iloadN (X : Stand p l e R s m args below meth c T locs cells slots) (hx : p.tables.exec = Jvm.exec) {k : Fin 4} {v : Int32} (hd : decode c.code pc = .ok (.iload_n k, 1)) (hq : pc + 1 = q) (hl : Ls[k.val]? = some (.val (.int v))) (K : own_Go p e below P (T.setTop (mkF m q Ls (.int v :: st)))) : own_Go p e below P (T.setTop (mkF m pc Ls st)) := by
  subst hq; exact own_via (fun t => XS.iloadN X.here hx rfl hd hl) K
theorem own_iload (X : Stand p l e R s m args below meth c T locs cells slots) (hx : p.tables.exec = Jvm.exec) {k : Nat} {v : Int32} (hd : decode c.code pc = .ok (.iload k, 2)) (hq : pc + 2 = q) (hl : Ls[k]? = some (.val (.int v))) (K : own_Go p e below P (T.setTop (mkF m q Ls (.int v :: st)))) : own_Go p e below P (T.setTop (mkF m pc Ls st)) := by
  subst hq; exact own_via (fun t => XS.iload X.here hx rfl hd hl) K
theorem own_lloadN (X : Stand p l e R s m args below meth c T locs cells slots) (hx : p.tables.exec = Jvm.exec) {k : Fin 4} {v : Int64} (hd : decode c.code pc = .ok (.lload_n k, 1)) (hq : pc + 1 = q) (hl : Ls[k.val]? = some (.val (.long v))) (K : own_Go p e below P (T.setTop (mkF m q Ls (.long v :: st)))) : own_Go p e below P (T.setTop (mkF m pc Ls st)) := by
  subst hq; exact own_via (fun t => XT.lloadN X.here hx rfl hd hl) K
theorem own_lload (X : Stand p l e R s m args below meth c T locs cells slots) (hx : p.tables.exec = Jvm.exec) {k : Nat} {v : Int64} (hd : decode c.code pc = .ok (.lload k, 2)) (hq : pc + 2 = q) (hl : Ls[k]? = some (.val (.long v))) (K : own_Go p e below P (T.setTop (mkF m q Ls (.long v :: st)))) : own_Go p e below P (T.setTop (mkF m pc Ls st)) := by
  subst hq; exact own_via (fun t => XT.lload X.here hx rfl hd hl) K
theorem own_aloadN (X : Stand p l e R s m args below meth c T locs cells slots) (hx : p.tables.exec = Jvm.exec) {k : Fin 4} {v : Value} (hd : decode c.code pc = .ok (.aload_n k, 1)) (hq : pc + 1 = q) (hl : Ls[k.val]? = some (.val v)) (hv : v.isRef = true) (K : own_Go p e below P (T.setTop (mkF m q Ls (v :: st)))) : own_Go p e below P (T.setTop (mkF m pc Ls st)) := by
  subst hq; exact own_via (fun t => XS.aloadN X.here hx rfl hd hl hv) K
theorem own_aload (X : Stand p l e R s m args below meth c T locs cells slots) (hx : p.tables.exec = Jvm.exec) {k : Nat} {v : Value} (hd : decode c.code pc = .ok (.aload k, 2)) (hq : pc + 2 = q) (hl : Ls[k]? = some (.val v)) (hv : v.isRef = true) (K : own_Go p e below P (T.setTop (mkF m q Ls (v :: st)))) : own_Go p e below P (T.setTop (mkF m pc Ls st)) := by
  subst hq; exact own_via (fun t => XS.aload X.here hx rfl hd hl hv) K
theorem own_istoreN (X : Stand p l e R s m args below meth c T locs cells slots) (hx : p.tables.exec = Jvm.exec) {k : Fin 4} {v : Int32} (hd : decode c.code pc = .ok (.istore_n k, 1)) (hq : pc + 1 = q) (hl : storeLocals Ls k.val (.int v) = some L') (K : own_Go p e below P (T.setTop (mkF m q L' st))) : own_Go p e below P (T.setTop (mkF m pc Ls (.int v :: st))) := by
  subst hq; exact own_via (fun t => XS.istoreN X.here hx rfl hd rfl hl) K
theorem own_istore (X : Stand p l e R s m args below meth c T locs cells slots) (hx : p.tables.exec = Jvm.exec) {k : Nat} {v : Int32} (hd : decode c.code pc = .ok (.istore k, 2)) (hq : pc + 2 = q) (hl : storeLocals Ls k (.int v) = some L') (K : own_Go p e below P (T.setTop (mkF m q L' st))) : own_Go p e below P (T.setTop (mkF m pc Ls (.int v :: st))) := by
  subst hq; exact own_via (fun t => XS.istore X.here hx rfl hd rfl hl) K
theorem own_lstoreN (X : Stand p l e R s m args below meth c T locs cells slots) (hx : p.tables.exec = Jvm.exec) {k : Fin 4} {v : Int64} (hd : decode c.code pc = .ok (.lstore_n k, 1)) (hq : pc + 1 = q) (hl : storeLocals Ls k.val (.long v) = some L') (K : own_Go p e below P (T.setTop (mkF m q L' st))) : own_Go p e below P (T.setTop (mkF m pc Ls (.long v :: st))) := by
  subst hq; exact own_via (fun t => XT.lstoreN X.here hx rfl hd rfl hl) K
theorem own_lstore (X : Stand p l e R s m args below meth c T locs cells slots) (hx : p.tables.exec = Jvm.exec) {k : Nat} {v : Int64} (hd : decode c.code pc = .ok (.lstore k, 2)) (hq : pc + 2 = q) (hl : storeLocals Ls k (.long v) = some L') (K : own_Go p e below P (T.setTop (mkF m q L' st))) : own_Go p e below P (T.setTop (mkF m pc Ls (.long v :: st))) := by
  subst hq; exact own_via (fun t => XT.lstore X.here hx rfl hd rfl hl) K
theorem own_astoreN (X : Stand p l e R s m args below meth c T locs cells slots) (hx : p.tables.exec = Jvm.exec) {k : Fin 4} {v : Value} (hd : decode c.code pc = .ok (.astore_n k, 1)) (hq : pc + 1 = q) (hv : v.isRef = true) (hl : storeLocals Ls k.val v = some L') (K : own_Go p e below P (T.setTop (mkF m q L' st))) : own_Go p e below P (T.setTop (mkF m pc Ls (v :: st))) := by
  subst hq; exact own_via (fun t => XS.astoreN X.here hx rfl hd rfl hv hl) K
theorem own_astore (X : Stand p l e R s m args below meth c T locs cells slots) (hx : p.tables.exec = Jvm.exec) {k : Nat} {v : Value} (hd : decode c.code pc = .ok (.astore k, 2)) (hq : pc + 2 = q) (hv : v.isRef = true) (hl : storeLocals Ls k v = some L') (K : own_Go p e below P (T.setTop (mkF m q L' st))) : own_Go p e below P (T.setTop (mkF m pc Ls (v :: st))) := by
  subst hq; exact own_via (fun t => XS.astore X.here hx rfl hd rfl hv hl) K
theorem own_iinc (X : Stand p l e R s m args below meth c T locs cells slots) (hx : p.tables.exec = Jvm.exec) {k : Nat} {i : Int} {x : Int32} (v : Int32) (hd : decode c.code pc = .ok (.iinc k i, 3)) (hq : pc + 3 = q) (hv : Int32.ofInt i = v) (hl : Ls[k]? = some (.val (.int x))) (hl' : storeLocals Ls k (.int (x + v)) = some L') (K : own_Go p e below P (T.setTop (mkF m q L' st))) : own_Go p e below P (T.setTop (mkF m pc Ls st)) := by
  subst hq; exact own_via (fun t => XT.iincV (v := v) X.here hx rfl hd hv hl hl') K
theorem own_dup (X : Stand p l e R s m args below meth c T locs cells slots) (hx : p.tables.exec = Jvm.exec) {v : Value} (hd : decode c.code pc = .ok (.dup, 1)) (hq : pc + 1 = q) (hc : v.category = 1) (K : own_Go p e below P (T.setTop (mkF m q Ls (v :: v :: st)))) : own_Go p e below P (T.setTop (mkF m pc Ls (v :: st))) := by
  subst hq; exact own_via (fun t => XS.dup X.here hx rfl hd rfl hc) K
theorem own_pop (X : Stand p l e R s m args below meth c T locs cells slots) (hx : p.tables.exec = Jvm.exec) {v : Value} (hd : decode c.code pc = .ok (.pop, 1)) (hq : pc + 1 = q) (hc : v.category = 1) (K : own_Go p e below P (T.setTop (mkF m q Ls st))) : own_Go p e below P (T.setTop (mkF m pc Ls (v :: st))) := by
  subst hq; exact own_via (fun t => XT.pop X.here hx rfl hd rfl hc) K
theorem own_dupX1 (X : Stand p l e R s m args below meth c T locs cells slots) (hx : p.tables.exec = Jvm.exec) {v w : Value} (hd : decode c.code pc = .ok (.dup_x1, 1)) (hq : pc + 1 = q) (hc : v.category = 1) (hc' : w.category = 1) (K : own_Go p e below P (T.setTop (mkF m q Ls (v :: w :: v :: st)))) : own_Go p e below P (T.setTop (mkF m pc Ls (v :: w :: st))) := by
  subst hq; exact own_via (fun t => XT.dupX1 X.here hx rfl hd rfl hc hc') K
theorem own_dup2 (X : Stand p l e R s m args below meth c T locs cells slots) (hx : p.tables.exec = Jvm.exec) {v w : Value} (hd : decode c.code pc = .ok (.dup2, 1)) (hq : pc + 1 = q) (hc : v.category = 1) (hc' : w.category = 1) (K : own_Go p e below P (T.setTop (mkF m q Ls (v :: w :: v :: w :: st)))) : own_Go p e below P (T.setTop (mkF m pc Ls (v :: w :: st))) := by
  subst hq; exact own_via (fun t => XT.dup2 X.here hx rfl hd rfl hc hc') K
theorem own_goto (X : Stand p l e R s m args below meth c T locs cells slots) (hx : p.tables.exec = Jvm.exec) {o : Int} (hd : decode c.code pc = .ok (.goto o, 3)) (ho : 0 ≤ (pc : Int) + o) (hp : ((pc : Int) + o).toNat = q) (K : own_Go p e below P (T.setTop (mkF m q Ls st))) : own_Go p e below P (T.setTop (mkF m pc Ls st)) := by
  exact own_via (fun t => XS.goto X.here hx rfl (pc0 := pc) (pc' := q) rfl hd ho hp) K
theorem own_ldc (X : Stand p l e R s m args below meth c T locs cells slots) (hx : p.tables.exec = Jvm.exec) {Z : State} {a0 : Array Value} (hZ : Z.Warmed39 s.vm) {own : String} {i : Nat} {v : Int32} (hown : s.vm.findClass own = some m.cls) (w : (Cond.constant own i v).before a0 Z = true) (hd : decode c.code pc = .ok (.ldc i, 2)) (hq : pc + 2 = q) (K : own_Go p e below P (T.setTop (mkF m q Ls (.int v :: st)))) : own_Go p e below P (T.setTop (mkF m pc Ls st)) := by
  subst hq; exact own_via (fun t => X.ldcI hx hown (mv hZ w) rfl hd) K
theorem own_ldcW (X : Stand p l e R s m args below meth c T locs cells slots) (hx : p.tables.exec = Jvm.exec) {Z : State} {a0 : Array Value} (hZ : Z.Warmed39 s.vm) {own : String} {i : Nat} {v : Int32} (hown : s.vm.findClass own = some m.cls) (w : (Cond.constant own i v).before a0 Z = true) (hd : decode c.code pc = .ok (.ldc_w i, 3)) (hq : pc + 3 = q) (K : own_Go p e below P (T.setTop (mkF m q Ls (.int v :: st)))) : own_Go p e below P (T.setTop (mkF m pc Ls st)) := by
  subst hq; exact own_via (fun t => X.ldcWI hx hown (mv hZ w) rfl hd) K
theorem own_ldc2 (X : Stand p l e R s m args below meth c T locs cells slots) (hx : p.tables.exec = Jvm.exec) {Z : State} {a0 : Array Value} (hZ : Z.Warmed39 s.vm) {own : String} {i : Nat} {v : Int64} (hown : s.vm.findClass own = some m.cls) (w : (Cond.constantLong own i v).before a0 Z = true) (hd : decode c.code pc = .ok (.ldc2_w i, 3)) (hq : pc + 3 = q) (K : own_Go p e below P (T.setTop (mkF m q Ls (.long v :: st)))) : own_Go p e below P (T.setTop (mkF m pc Ls st)) := by
  subst hq; exact own_via (fun t => X.ldc2J hx hown (mv hZ w) rfl hd) K
def own_pos : ClassFile.Cond → Bool | .eq => true | .lt => true | .gt => true | _ => false
def own_base {α : Type} [LT α] : ClassFile.Cond → α → α → Prop | .eq, x, y => x = y | .ne, x, y => x = y | .lt, x, y => x < y | .ge, x, y => x < y | .gt, x, y => y < x | .le, x, y => y < x
theorem own_ii {cd : ClassFile.Cond} {x y : Int32} : (own_base cd x y → if_icmp.holds cd x y = own_pos cd) ∧ (¬ own_base cd x y → if_icmp.holds cd x y = !own_pos cd) := by
  cases cd <;> simp only [own_base, own_pos, Bool.not_true, Bool.not_false]
  · exact ⟨XT.ii_eq_t, XT.ii_eq_f⟩
  · exact ⟨XT.ii_ne_f, XT.ii_ne_t⟩
  · exact ⟨XT.ii_lt_t, XT.ii_lt_f⟩
  · exact ⟨XT.ii_ge_f, XT.ii_ge_t⟩
  · exact ⟨XT.ii_gt_t, XT.ii_gt_f⟩
  · exact ⟨XT.ii_le_f, XT.ii_le_t⟩
theorem own_ll {cd : ClassFile.Cond} {x y : Int64} : (own_base cd x y → ifCond.holds cd (XT.cmpL x y) = own_pos cd) ∧ (¬ own_base cd x y → ifCond.holds cd (XT.cmpL x y) = !own_pos cd) := by
  cases cd <;> simp only [own_base, own_pos, Bool.not_true, Bool.not_false]
  · exact ⟨XT.ll_eq_t, XT.ll_eq_f⟩
  · exact ⟨XT.ll_ne_f, XT.ll_ne_t⟩
  · exact ⟨XT.ll_lt_t, XT.ll_lt_f⟩
  · exact ⟨XT.ll_ge_f, XT.ll_ge_t⟩
  · exact ⟨XT.ll_gt_t, XT.ll_gt_f⟩
  · exact ⟨XT.ll_le_f, XT.ll_le_t⟩
theorem own_icmpP (X : Stand p l e R s m args below meth c T locs cells slots) (hx : p.tables.exec = Jvm.exec) {x y : Int32} {cd : ClassFile.Cond} {o : Int} {pt : Nat} (hd : decode c.code pc = .ok (.if_icmp cd o, 3)) (ho : 0 ≤ (pc : Int) + o) (hp : ((pc : Int) + o).toNat = pt) (hq : pc + 3 = q) (hs : own_pos cd = true) (K1 : own_base cd x y → own_Go p e below P (T.setTop (mkF m pt Ls st))) (K2 : ¬ own_base cd x y → own_Go p e below P (T.setTop (mkF m q Ls st))) : own_Go p e below P (T.setTop (mkF m pc Ls (.int y :: .int x :: st))) := by
  subst hq
  by_cases h : own_base cd x y
  · exact own_via (fun t => XS.icmpYes X.here hx rfl (pc0 := pc) (pc' := pt) rfl hd rfl ((own_ii.1 h).trans hs) ho hp) (K1 h)
  · exact own_via (fun t => XS.icmpNo X.here hx rfl hd rfl ((own_ii.2 h).trans (by rw [hs]; rfl))) (K2 h)
theorem own_icmpM (X : Stand p l e R s m args below meth c T locs cells slots) (hx : p.tables.exec = Jvm.exec) {x y : Int32} {cd : ClassFile.Cond} {o : Int} {pt : Nat} (hd : decode c.code pc = .ok (.if_icmp cd o, 3)) (ho : 0 ≤ (pc : Int) + o) (hp : ((pc : Int) + o).toNat = pt) (hq : pc + 3 = q) (hs : own_pos cd = false) (K1 : ¬ own_base cd x y → own_Go p e below P (T.setTop (mkF m pt Ls st))) (K2 : own_base cd x y → own_Go p e below P (T.setTop (mkF m q Ls st))) : own_Go p e below P (T.setTop (mkF m pc Ls (.int y :: .int x :: st))) := by
  subst hq
  by_cases h : own_base cd x y
  · exact own_via (fun t => XS.icmpNo X.here hx rfl hd rfl ((own_ii.1 h).trans hs)) (K2 h)
  · exact own_via (fun t => XS.icmpYes X.here hx rfl (pc0 := pc) (pc' := pt) rfl hd rfl ((own_ii.2 h).trans (by rw [hs]; rfl)) ho hp) (K1 h)
theorem own_if0P (X : Stand p l e R s m args below meth c T locs cells slots) (hx : p.tables.exec = Jvm.exec) {x : Int32} {cd : ClassFile.Cond} {o : Int} {pt : Nat} (hd : decode c.code pc = .ok (.ifCond cd o, 3)) (ho : 0 ≤ (pc : Int) + o) (hp : ((pc : Int) + o).toNat = pt) (hq : pc + 3 = q) (hs : own_pos cd = true) (K1 : own_base cd x (0 : Int32) → own_Go p e below P (T.setTop (mkF m pt Ls st))) (K2 : ¬ own_base cd x (0 : Int32) → own_Go p e below P (T.setTop (mkF m q Ls st))) : own_Go p e below P (T.setTop (mkF m pc Ls (.int x :: st))) := by
  subst hq
  by_cases h : own_base cd x (0 : Int32)
  · exact own_via (fun t => XS.ifYes X.here hx rfl (pc0 := pc) (pc' := pt) rfl hd rfl ((if0 cd x).trans ((own_ii (y := 0).1 h).trans hs)) ho hp) (K1 h)
  · exact own_via (fun t => XS.ifNo X.here hx rfl hd rfl ((if0 cd x).trans ((own_ii (y := 0).2 h).trans (by rw [hs]; rfl)))) (K2 h)
theorem own_if0M (X : Stand p l e R s m args below meth c T locs cells slots) (hx : p.tables.exec = Jvm.exec) {x : Int32} {cd : ClassFile.Cond} {o : Int} {pt : Nat} (hd : decode c.code pc = .ok (.ifCond cd o, 3)) (ho : 0 ≤ (pc : Int) + o) (hp : ((pc : Int) + o).toNat = pt) (hq : pc + 3 = q) (hs : own_pos cd = false) (K1 : ¬ own_base cd x (0 : Int32) → own_Go p e below P (T.setTop (mkF m pt Ls st))) (K2 : own_base cd x (0 : Int32) → own_Go p e below P (T.setTop (mkF m q Ls st))) : own_Go p e below P (T.setTop (mkF m pc Ls (.int x :: st))) := by
  subst hq
  by_cases h : own_base cd x (0 : Int32)
  · exact own_via (fun t => XS.ifNo X.here hx rfl hd rfl ((if0 cd x).trans ((own_ii (y := 0).1 h).trans hs))) (K2 h)
  · exact own_via (fun t => XS.ifYes X.here hx rfl (pc0 := pc) (pc' := pt) rfl hd rfl ((if0 cd x).trans ((own_ii (y := 0).2 h).trans (by rw [hs]; rfl))) ho hp) (K1 h)
theorem own_ifLP (X : Stand p l e R s m args below meth c T locs cells slots) (hx : p.tables.exec = Jvm.exec) {x y : Int64} {cd : ClassFile.Cond} {o : Int} {pt : Nat} (hd : decode c.code pc = .ok (.ifCond cd o, 3)) (ho : 0 ≤ (pc : Int) + o) (hp : ((pc : Int) + o).toNat = pt) (hq : pc + 3 = q) (hs : own_pos cd = true) (K1 : own_base cd x y → own_Go p e below P (T.setTop (mkF m pt Ls st))) (K2 : ¬ own_base cd x y → own_Go p e below P (T.setTop (mkF m q Ls st))) : own_Go p e below P (T.setTop (mkF m pc Ls (.int (XT.cmpL x y) :: st))) := by
  subst hq
  by_cases h : own_base cd x y
  · exact own_via (fun t => XS.ifYes X.here hx rfl (pc0 := pc) (pc' := pt) rfl hd rfl ((own_ll.1 h).trans hs) ho hp) (K1 h)
  · exact own_via (fun t => XS.ifNo X.here hx rfl hd rfl ((own_ll.2 h).trans (by rw [hs]; rfl))) (K2 h)
theorem own_ifLM (X : Stand p l e R s m args below meth c T locs cells slots) (hx : p.tables.exec = Jvm.exec) {x y : Int64} {cd : ClassFile.Cond} {o : Int} {pt : Nat} (hd : decode c.code pc = .ok (.ifCond cd o, 3)) (ho : 0 ≤ (pc : Int) + o) (hp : ((pc : Int) + o).toNat = pt) (hq : pc + 3 = q) (hs : own_pos cd = false) (K1 : ¬ own_base cd x y → own_Go p e below P (T.setTop (mkF m pt Ls st))) (K2 : own_base cd x y → own_Go p e below P (T.setTop (mkF m q Ls st))) : own_Go p e below P (T.setTop (mkF m pc Ls (.int (XT.cmpL x y) :: st))) := by
  subst hq
  by_cases h : own_base cd x y
  · exact own_via (fun t => XS.ifNo X.here hx rfl hd rfl ((own_ll.1 h).trans hs)) (K2 h)
  · exact own_via (fun t => XS.ifYes X.here hx rfl (pc0 := pc) (pc' := pt) rfl hd rfl ((own_ll.2 h).trans (by rw [hs]; rfl)) ho hp) (K1 h)
theorem own_acmp (X : Stand p l e R s m args below meth c T locs cells slots) (hx : p.tables.exec = Jvm.exec) {cd : ACond} {v w : Value} {o : Int} {same : Bool} (hv : v.isRef = true) (hw : w.isRef = true) (hd : decode c.code pc = .ok (.if_acmp cd o, 3)) (hs : decide (v = w) = same) (ho : 0 ≤ (pc : Int) + o) (hp : q = if acV cd same = true then ((pc : Int) + o).toNat else pc + 3) (K : own_Go p e below P (T.setTop (mkF m q Ls st))) : own_Go p e below P (T.setTop (mkF m pc Ls (w :: v :: st))) := by
  exact own_via (fun t => acmp X hx rfl hv hw (pc0 := pc) rfl hd rfl hs ho hp) K
theorem own_nullY (X : Stand p l e R s m args below meth c T locs cells slots) (hx : p.tables.exec = Jvm.exec) {o : Int} (hd : decode c.code pc = .ok (.ifnull o, 3)) (ho : 0 ≤ (pc : Int) + o) (hp : ((pc : Int) + o).toNat = q) (K : own_Go p e below P (T.setTop (mkF m q Ls st))) : own_Go p e below P (T.setTop (mkF m pc Ls (.null :: st))) := by
  exact own_via (fun t => XS.ifnullYes X.here hx rfl (pc0 := pc) (pc' := q) rfl hd rfl ho hp) K
theorem own_nullN (X : Stand p l e R s m args below meth c T locs cells slots) (hx : p.tables.exec = Jvm.exec) {o : Int} {a : Addr} (hd : decode c.code pc = .ok (.ifnull o, 3)) (hq : pc + 3 = q) (K : own_Go p e below P (T.setTop (mkF m q Ls st))) : own_Go p e below P (T.setTop (mkF m pc Ls (.ref a :: st))) := by
  subst hq; exact own_via (fun t => XS.ifnullNo X.here hx rfl hd rfl) K
theorem own_nonnullY (X : Stand p l e R s m args below meth c T locs cells slots) (hx : p.tables.exec = Jvm.exec) {o : Int} {a : Addr} (hd : decode c.code pc = .ok (.ifnonnull o, 3)) (ho : 0 ≤ (pc : Int) + o) (hp : ((pc : Int) + o).toNat = q) (K : own_Go p e below P (T.setTop (mkF m q Ls st))) : own_Go p e below P (T.setTop (mkF m pc Ls (.ref a :: st))) := by
  exact own_via (fun t => XT.ifnonnullYes X.here hx rfl (pc0 := pc) (pc' := q) rfl hd rfl ho hp) K
theorem own_nonnullN (X : Stand p l e R s m args below meth c T locs cells slots) (hx : p.tables.exec = Jvm.exec) {o : Int} (hd : decode c.code pc = .ok (.ifnonnull o, 3)) (hq : pc + 3 = q) (K : own_Go p e below P (T.setTop (mkF m q Ls st))) : own_Go p e below P (T.setTop (mkF m pc Ls (.null :: st))) := by
  subst hq; exact own_via (fun t => XT.ifnonnullNo X.here hx rfl hd rfl) K
theorem own_retN (X : Stand p l e R s m args below meth c T locs cells slots) (hx : p.tables.exec = Jvm.exec) (hlk : meth.locks = false) {rest : List Value} {z : Int32} {t : FieldType} (ht : t = .boolean ∨ t = .byte ∨ t = .char ∨ t = .short) (hret : meth.sig.returnType = some t) (hd : decode c.code pc = .ok (.ireturn, 1)) (hqq : Q (some (.int (nar t z))) T.heap locs) (hc : cells ≤ kc) (hs : slots ≤ ks)  : own_Go p e below (own_E s kc ks Q) (T.setTop (mkF m pc Ls (.int z :: rest))) := by
  obtain ⟨fs, hr, hrun, hended, hW, hsame⟩ := X.leave (v := (some (.int (nar t z)))) (fun h => by rw [hret] at h; cases h) hlk
  exact ⟨_, _, retN X hx hret ht hd hr, hrun, hended, _, _, rfl, hqq, ⟨_, rfl⟩, hW, hsame.mono hc hs⟩
theorem own_retI (X : Stand p l e R s m args below meth c T locs cells slots) (hx : p.tables.exec = Jvm.exec) (hlk : meth.locks = false) {rest : List Value} {z : Int32} (hret : meth.sig.returnType = some .int) (hd : decode c.code pc = .ok (.ireturn, 1)) (hqq : Q (some (.int z)) T.heap locs) (hc : cells ≤ kc) (hs : slots ≤ ks)  : own_Go p e below (own_E s kc ks Q) (T.setTop (mkF m pc Ls (.int z :: rest))) := by
  obtain ⟨fs, hr, hrun, hended, hW, hsame⟩ := X.leave (v := (some (.int z))) (fun h => by rw [hret] at h; cases h) hlk
  exact ⟨_, _, retOut X hx hret rfl (Or.inl ⟨rfl, Or.inl rfl, z, rfl⟩) hd hr, hrun, hended, _, _, rfl, hqq, ⟨_, rfl⟩, hW, hsame.mono hc hs⟩
theorem own_retJ (X : Stand p l e R s m args below meth c T locs cells slots) (hx : p.tables.exec = Jvm.exec) (hlk : meth.locks = false) {rest : List Value} {z : Int64} (hret : meth.sig.returnType = some .long) (hd : decode c.code pc = .ok (.lreturn, 1)) (hqq : Q (some (.long z)) T.heap locs) (hc : cells ≤ kc) (hs : slots ≤ ks)  : own_Go p e below (own_E s kc ks Q) (T.setTop (mkF m pc Ls (.long z :: rest))) := by
  obtain ⟨fs, hr, hrun, hended, hW, hsame⟩ := X.leave (v := (some (.long z))) (fun h => by rw [hret] at h; cases h) hlk
  exact ⟨_, _, retOut X hx hret rfl (Or.inr (Or.inl ⟨rfl, rfl, z, rfl⟩)) hd hr, hrun, hended, _, _, rfl, hqq, ⟨_, rfl⟩, hW, hsame.mono hc hs⟩
theorem own_retA (X : Stand p l e R s m args below meth c T locs cells slots) (hx : p.tables.exec = Jvm.exec) (hlk : meth.locks = false) {rest : List Value} {w : Value} {t : FieldType} (hw : w.isRef = true) (ht : t.isReference = true) (hn : narrow t w = w) (hret : meth.sig.returnType = some t) (hd : decode c.code pc = .ok (.areturn, 1)) (hqq : Q (some w) T.heap locs) (hc : cells ≤ kc) (hs : slots ≤ ks)  : own_Go p e below (own_E s kc ks Q) (T.setTop (mkF m pc Ls (w :: rest))) := by
  obtain ⟨fs, hr, hrun, hended, hW, hsame⟩ := X.leave (v := (some w)) (fun h => by rw [hret] at h; cases h) hlk
  exact ⟨_, _, retOut X hx hret hn (Or.inr (Or.inr (Or.inr (Or.inr ⟨rfl, ht, hw⟩)))) hd hr, hrun, hended, _, _, rfl, hqq, ⟨_, rfl⟩, hW, hsame.mono hc hs⟩
theorem own_retV (X : Stand p l e R s m args below meth c T locs cells slots) (hx : p.tables.exec = Jvm.exec) (hlk : meth.locks = false) {rest : List Value} (hret : meth.sig.returnType = none) (hd : decode c.code pc = .ok (.return_, 1)) (hqq : Q none T.heap locs) (hc : cells ≤ kc) (hs : slots ≤ ks)  : own_Go p e below (own_E s kc ks Q) (T.setTop (mkF m pc Ls [])) := by
  obtain ⟨fs, hr, hrun, hended, hW, hsame⟩ := X.leave (v := none) (fun _ => rfl) hlk
  exact ⟨_, _, X.returnOut hx hret hd hr, hrun, hended, _, _, rfl, hqq, ⟨_, rfl⟩, hW, hsame.mono hc hs⟩
theorem own_callS (X : Stand p l e R s m args below meth c T locs cells slots) (hx : p.tables.exec = Jvm.exec) {Z : State} {a0 : Array Value} {h : Heap} {own : String} {index : Nat} {y : MethodName} {bytes : ByteArray} {maxL : Nat} {ret : Option FieldType} {rm : Room} {W : Nat} {argsL : List Value} {Qc : Option Value → Heap → List Loc → Prop} {ps : List FieldType} {r : Option FieldType} {st0 : List Value} (hZ : Z.Warmed39 s.vm) (hown : s.vm.findClass own = some m.cls) (w1 : (Cond.methodLink own index y).before a0 Z = true) (w2 : (Cond.static y).before a0 Z = true) (w3 : (Cond.initialized y.cls).before a0 Z = true) (w4 : (Cond.code y bytes maxL ret).before a0 Z = true) (hy : y.cls ≠ "java/lang/invoke/MethodHandle" ∧ y.cls ≠ "java/lang/invoke/VarHandle") (hM : MetFree l y (head1 [Cond.code y bytes maxL ret] rm) (fun aa U => aa = argsL.toArray ∧ Z.Warmed39 U.vm ∧ U.heap = h) (fun _ _ _ _ _ => True) (fun _ U o U' => ∃ v L, o = .returned v ∧ Qc v U'.heap L ∧ FrameEnd U o U' L rm.cells rm.slots)) (hpd : parseMethodDescriptor y.desc = some ⟨ps, r⟩) (hlen : argsL.length = ps.length) (eT : T.heap = h) (hml : Ls.size = c.maxLocals) (hst : st0 = argsL.reverse ++ st) (hW : (st.map fun v => v.category).sum ≤ W) (hf : rm.frames + 1 ≤ R.frames) (hl : W + (maxL + 11) + rm.locals ≤ R.locals) (hc : cells + rm.cells ≤ R.cells) (hs : slots + rm.slots ≤ R.slots) (hd : decode c.code pc = .ok (.invokestatic index, 3)) (hq : pc + 3 = q) (K : ∀ v T' L, Stand p l e R s m args below meth c T' (locs ++ L) (cells + rm.cells) (slots + rm.slots) → Qc v T'.heap L → own_Go p e below P (T'.setTop (mkF m q Ls (v.toList ++ st)))) : own_Go p e below P (T.setTop (mkF m pc Ls st0)) := by
  subst hq hst
  obtain ⟨v, _, ⟨T', L', k', n'⟩, -, X', ⟨Lc, hQ, l', y', z'⟩, st'⟩ := Jvm.LawKit.callS X hx hown (mvT hZ w1) (mvT hZ w2) (mvT hZ w3) (mvT hZ w4) hy (backOf (W := W) hM hZ w4 w3 hf hl) (g := mkF m pc Ls (argsL.reverse ++ st)) rfl hml (argsL := argsL) (rest := st) (lenOf hpd hlen) rfl (by show 2 * 0 + _ ≤ _; omega) hd (fun _ _ => ⟨rfl, eT, hc, hs⟩)
  dsimp only [Pt.U, Pt.locs, Pt.cells, Pt.slots] at X' l' y' z' st' hQ
  subst l' y' z'
  exact own_via (fun t => st' t) (K v T' Lc X' hQ)
theorem own_callC (X : Stand p l e R s m args below meth c T locs cells slots) (hx : p.tables.exec = Jvm.exec) {a : Addr} {Z : State} {a0 : Array Value} {h : Heap} {own : String} {index : Nat} {y : MethodName} {bytes : ByteArray} {maxL : Nat} {rm : Room} {W : Nat} {argsL : List Value} {Qc : Option Value → Heap → List Loc → Prop} {ps : List FieldType} {r : Option FieldType} {st0 : List Value} (hZ : Z.Warmed39 s.vm) (hown : s.vm.findClass own = some m.cls) (hy1 : y.name = "<init>") (w1 : (Cond.methodLink own index y).before a0 Z = true) (w2 : (Cond.instanceMethod y).before a0 Z = true) (w3 : (Cond.initialized y.cls).before a0 Z = true) (w4 : (Cond.code y bytes maxL none).before a0 Z = true) (hy : y.cls ≠ "java/lang/invoke/MethodHandle" ∧ y.cls ≠ "java/lang/invoke/VarHandle") (hM : MetFree l y (head1 [Cond.code y bytes maxL none] rm) (fun aa U => aa = (.ref a :: argsL).toArray ∧ Z.Warmed39 U.vm ∧ U.heap = h) (fun _ _ _ _ _ => True) (fun _ U o U' => ∃ v L, o = .returned v ∧ Qc v U'.heap L ∧ FrameEnd U o U' L rm.cells rm.slots)) (hpd : parseMethodDescriptor y.desc = some ⟨ps, r⟩) (hlen : argsL.length = ps.length) (eT : T.heap = h) (hml : Ls.size = c.maxLocals) (hst : st0 = argsL.reverse ++ .ref a :: st) (hW : (st.map fun v => v.category).sum ≤ W) (hf : rm.frames + 1 ≤ R.frames) (hl : W + (maxL + 11) + rm.locals ≤ R.locals) (hc : cells + rm.cells ≤ R.cells) (hs : slots + rm.slots ≤ R.slots) (hd : decode c.code pc = .ok (.invokespecial index, 3)) (hq : pc + 3 = q) (K : ∀ v T' L, Stand p l e R s m args below meth c T' (locs ++ L) (cells + rm.cells) (slots + rm.slots) → Qc v T'.heap L → own_Go p e below P (T'.setTop (mkF m q Ls (v.toList ++ st)))) : own_Go p e below P (T.setTop (mkF m pc Ls st0)) := by
  subst hq hst
  obtain ⟨v, _, ⟨T', L', k', n'⟩, -, X', ⟨Lc, hQ, l', y', z'⟩, st'⟩ := X.specialBack hx hy1 hown (mvT hZ w1) (mvT hZ w2) (mvT hZ w4) hy (backOf (W := W) hM hZ w4 w3 hf hl) (g := mkF m pc Ls (argsL.reverse ++ .ref a :: st)) rfl hml (Steps.refl _) (a := a) (argsL := argsL) (rest := st) (lenOf hpd hlen) rfl (by show 2 * 0 + _ ≤ _; omega) hd (fun _ _ => ⟨rfl, eT, hc, hs⟩)
  dsimp only [Pt.U, Pt.locs, Pt.cells, Pt.slots] at X' l' y' z' st' hQ
  subst l' y' z'
  exact own_via (fun t => st'.trans) (K v T' Lc X' hQ)
theorem own_callV (X : Stand p l e R s m args below meth c T locs cells slots) (hx : p.tables.exec = Jvm.exec) {a : Addr} {C : String} {z : MethodName} {Z : State} {a0 : Array Value} {h : Heap} {own : String} {index : Nat} {y : MethodName} {bytes : ByteArray} {maxL : Nat} {ret : Option FieldType} {rm : Room} {W : Nat} {argsL : List Value} {Qc : Option Value → Heap → List Loc → Prop} {ps : List FieldType} {r : Option FieldType} {st0 : List Value} (hZ : Z.Warmed39 s.vm) (hown : s.vm.findClass own = some m.cls) (w1 : (Cond.methodLink own index y).before a0 Z = true) (w2 : (Cond.declares y).before a0 Z = true) (w5 : (Cond.selects y.cls y y).before a0 Z = true) (w6 : (Cond.selects C y z).before a0 Z = true) (w7 : (Cond.instanceMethod z).before a0 Z = true) (w3 : (Cond.initialized z.cls).before a0 Z = true) (w4 : (Cond.code z bytes maxL ret).before a0 Z = true) (E : Exa Z h a C) (hy : y.cls ≠ "java/lang/invoke/MethodHandle" ∧ y.cls ≠ "java/lang/invoke/VarHandle") (hM : MetFree l z (head1 [Cond.code z bytes maxL ret] rm) (fun aa U => aa = (.ref a :: argsL).toArray ∧ Z.Warmed39 U.vm ∧ U.heap = h) (fun _ _ _ _ _ => True) (fun _ U o U' => ∃ v L, o = .returned v ∧ Qc v U'.heap L ∧ FrameEnd U o U' L rm.cells rm.slots)) (hpd : parseMethodDescriptor y.desc = some ⟨ps, r⟩) (hlen : argsL.length = ps.length) (eT : T.heap = h) (hml : Ls.size = c.maxLocals) (hst : st0 = argsL.reverse ++ .ref a :: st) (hW : (st.map fun v => v.category).sum ≤ W) (hf : rm.frames + 1 ≤ R.frames) (hl : W + (maxL + 11) + rm.locals ≤ R.locals) (hc : cells + rm.cells ≤ R.cells) (hs : slots + rm.slots ≤ R.slots) (hd : decode c.code pc = .ok (.invokevirtual index, 3)) (hq : pc + 3 = q) (K : ∀ v T' L, Stand p l e R s m args below meth c T' (locs ++ L) (cells + rm.cells) (slots + rm.slots) → Qc v T'.heap L → own_Go p e below P (T'.setTop (mkF m q Ls (v.toList ++ st)))) : own_Go p e below P (T.setTop (mkF m pc Ls st0)) := by
  subst hq hst
  obtain ⟨cq, kq, qa, qb, qc⟩ := isOf hZ eT E
  obtain ⟨v, _, ⟨T', L', k', n'⟩, -, X', ⟨Lc, hQ, l', y', z'⟩, st'⟩ := X.virtualBack hx (y := y) (z := z) hown (mvT hZ w1) (mvT hZ w2) (notFace_of_selects (args := #[]) (mvT hZ w5)) (mvT hZ w6) (mvT hZ w7) hy (backOf (W := W) hM hZ w4 w3 hf hl) qa qc (g := mkF m pc Ls (argsL.reverse ++ .ref a :: st)) rfl hml (Steps.refl _) (argsL := argsL) (rest := st) (lenOf hpd hlen) rfl (by show 2 * 0 + _ ≤ _; omega) hd (fun _ _ => ⟨rfl, eT, hc, hs⟩)
  dsimp only [Pt.U, Pt.locs, Pt.cells, Pt.slots] at X' l' y' z' st' hQ
  subst l' y' z'
  exact own_via (fun t => st'.trans) (K v T' Lc X' hQ)
theorem own_new (X : Stand p l e R s m args below meth c T locs cells slots) (hx : p.tables.exec = Jvm.exec) {Z : State} {a0 : Array Value} {h : Heap} (hZ : Z.Warmed39 s.vm) {own : String} {i : Nat} (hown : s.vm.findClass own = some m.cls) {C : String} {n : Nat} (w : (Cond.classLink own i C).before a0 Z = true) (wi : (Cond.instantiable C n).before a0 Z = true) (wz : (Cond.initialized C).before a0 Z = true) (eT : T.heap = h) (hd : decode c.code pc = .ok (.new i, 3)) (hc : cells + 1 ≤ R.cells) (hl : slots + n ≤ R.slots) (hq : pc + 3 = q) (K : ∀ T' h' a, Stand p l e R s m args below meth c T' locs (cells + 1) (slots + n) → T'.heap = h' → a = h.size → Ext h h' → Exa Z h' a C → (∀ {O nm d : String} {ty : FieldType}, Laid Z a0 C O nm d → parseFieldDescriptor d = some ty → Fld Z h' a O nm d (defaultValue ty)) → own_Go p e below P (T'.setTop (mkF m q Ls (.ref a :: st)))) : own_Go p e below P (T.setTop (mkF m pc Ls st)) := by
  subst hq
  obtain ⟨T', h', X', e', E', A', D', -, st'⟩ := newO X hx hZ hown w wi wz eT (g := mkF m pc Ls st) rfl hd hc hl
  exact own_via (fun t => st' t) (K T' h' _ X' e' rfl E' A' D')
theorem own_getF (X : Stand p l e R s m args below meth c T locs cells slots) (hx : p.tables.exec = Jvm.exec) {Z : State} {a0 : Array Value} {h : Heap} (hZ : Z.Warmed39 s.vm) {own : String} {i : Nat} (hown : s.vm.findClass own = some m.cls) {a : Addr} {v : Value} {R0 O n d host : String} (w : (Cond.fieldLink own i R0 n d).before a0 Z = true ∨ (Cond.fieldLinkNest own i R0 n d host).before a0 Z = true) (via : Via Z R0 O n d) (eT : T.heap = h) (F : Fld Z h a O n d v) (hd : decode c.code pc = .ok (.getfield i, 3)) (hq : pc + 3 = q) (K : ∀ T', Stand p l e R s m args below meth c T' locs cells slots → T'.heap = h → own_Go p e below P (T'.setTop (mkF m q Ls (v :: st)))) : own_Go p e below P (T.setTop (mkF m pc Ls (.ref a :: st))) := by
  subst hq
  obtain ⟨T', X', e', st'⟩ := getF X hx hZ hown w via eT F (g := mkF m pc Ls (.ref a :: st)) rfl rfl hd
  exact own_via (fun t => st' t) (K T' X' e')
theorem own_putF (X : Stand p l e R s m args below meth c T locs cells slots) (hx : p.tables.exec = Jvm.exec) {Z : State} {a0 : Array Value} {h : Heap} (hZ : Z.Warmed39 s.vm) {own : String} {i : Nat} (hown : s.vm.findClass own = some m.cls) {a : Addr} {v old : Value} {R0 O n d host C : String} {kk : Nat} {ty : FieldType} (w : (Cond.fieldLink own i R0 n d).before a0 Z = true ∨ (Cond.fieldLinkNest own i R0 n d host).before a0 Z = true) (via : Via Z R0 O n d) (eT : T.heap = h) (F : Fld Z h a O n d old) (E : Exa Z h a C) (L : (Cond.lays C O n d).before a0 Z = true ∨ ((Cond.laysFinal C O n d).before a0 Z = true ∧ own = O ∧ meth.name = "<init>")) (wi : (Cond.instantiable C kk).before a0 Z = true) (hty : parseFieldDescriptor d = some ty) (hn : narrow ty v = v) (hf : fits ty v = true) (hd : decode c.code pc = .ok (.putfield i, 3)) (hq : pc + 3 = q) (K : ∀ T' h', Stand p l e R s m args below meth c T' (locs ++ [⟨a, RoadKit.slotOf Z O n d⟩]) cells slots → T'.heap = h' → Wr h h' a (RoadKit.slotOf Z O n d) v → own_Go p e below P (T'.setTop (mkF m q Ls st))) : own_Go p e below P (T.setTop (mkF m pc Ls (v :: .ref a :: st))) := by
  subst hq
  obtain ⟨T', h', X', e', W', st'⟩ := putF X hx hZ hown w via eT F E L wi hty hn hf (g := mkF m pc Ls (v :: .ref a :: st)) rfl rfl hd
  exact own_via (fun t => st' t) (K T' h' X' e' W')
theorem own_initO (X : Stand p l e R s m args below meth c T locs cells slots) (hx : p.tables.exec = Jvm.exec) {Z : State} {a0 : Array Value} {h : Heap} (hZ : Z.Warmed39 s.vm) {own : String} {i : Nat} (hown : s.vm.findClass own = some m.cls) {a : Addr} {W : Nat} (w1 : (Cond.methodLink own i Lib.objectInit).before a0 Z = true) (w2 : (Cond.instanceMethod Lib.objectInit).before a0 Z = true) (w3 : (Cond.code Lib.objectInit ⟨#[0xb1]⟩ 1 none).before a0 Z = true) (eT : T.heap = h) (hml : Ls.size = c.maxLocals) (hf : 1 ≤ R.frames) (hW : (st.map fun v => v.category).sum ≤ W) (hl : W + 12 ≤ R.locals) (hd : decode c.code pc = .ok (.invokespecial i, 3)) (hq : pc + 3 = q) (K : ∀ T', Stand p l e R s m args below meth c T' locs cells slots → T'.heap = h → own_Go p e below P (T'.setTop (mkF m q Ls st))) : own_Go p e below P (T.setTop (mkF m pc Ls (.ref a :: st))) := by
  subst hq
  obtain ⟨T', X', e', st'⟩ := initO X hx hZ hown w1 w2 w3 eT (g := mkF m pc Ls (.ref a :: st)) rfl hml rfl hd hf (W := W) (by show 2 * 0 + _ ≤ _; omega) hl
  exact own_via (fun t => st' t) (K T' X' e')
theorem own_getS (X : Stand p l e R s m args below meth c T locs cells slots) (hx : p.tables.exec = Jvm.exec) {Z : State} {a0 : Array Value} {h : Heap} (hZ : Z.Warmed39 s.vm) {own : String} {i : Nat} (hown : s.vm.findClass own = some m.cls) {v : Value} {R0 O n d : String} (w : (Cond.fieldLink own i R0 n d).before a0 Z = true) (via : Via Z R0 O n d) (eT : T.heap = h) (F : Sta Z h O n d v) (hd : decode c.code pc = .ok (.getstatic i, 3)) (hq : pc + 3 = q) (K : ∀ T', Stand p l e R s m args below meth c T' locs cells slots → T'.heap = h → own_Go p e below P (T'.setTop (mkF m q Ls (v :: st)))) : own_Go p e below P (T.setTop (mkF m pc Ls st)) := by
  subst hq
  obtain ⟨T', X', e', st'⟩ := getS X hx hZ (host := "") hown w via eT F (g := mkF m pc Ls st) rfl hd
  exact own_via (fun t => st' t) (K T' X' e')
def own_V (h : Heap) (v : Option Value) (h' : Heap) (L : List Loc) : Prop := v = none ∧ h' = h ∧ L = []
def own_Like (X : Stand p l e R s m args below meth c T locs cells slots) (T' : State) : Prop := Stand p l e R s m args below meth c T' locs cells slots ∧ T'.heap = T.heap
def own_A (Z : State) (h : Heap) (a : Addr) (ty : FieldType) (vs : List Value) : Prop := ∃ c : Cell, Arr Z h a c ty ∧ c.slots.toList = vs
theorem own_A.lt {Z : State} {h : Heap} {a : Addr} {ty : FieldType} {vs : List Value} (F : own_A Z h a ty vs) : a < h.size := by obtain ⟨c, A, -⟩ := F; exact A.lt
theorem own_A.ext {Z : State} {h h' : Heap} {a : Addr} {ty : FieldType} {vs : List Value} (F : own_A Z h a ty vs) (E : Ext h h') : own_A Z h' a ty vs := by obtain ⟨c, A, r⟩ := F; exact ⟨c, A.ext E, r⟩
theorem own_A.other {Z : State} {h h' : Heap} {a b : Addr} {ty : FieldType} {vs : List Value} {sl : Nat} {v : Value} (F : own_A Z h b ty vs) (W : Wr h h' a sl v) (q : b ≠ a) : own_A Z h' b ty vs := by obtain ⟨c, A, r⟩ := F; exact ⟨c, A.other W q, r⟩
theorem own_A.keep {Z : State} {h h' : Heap} {a : Addr} {ty : FieldType} {vs : List Value} {ws : List Addr} (F : own_A Z h a ty vs) (K : Keep h h' ws) (q : a ∉ ws) : own_A Z h' a ty vs := by obtain ⟨c, A, r⟩ := F; exact ⟨c, ⟨K.2.1 a c A.1 q, A.2⟩, r⟩
theorem own_A.set {Z : State} {h h' : Heap} {a : Addr} {ty : FieldType} {vs : List Value} {i : Nat} {v : Value} (F : own_A Z h a ty vs) (W : Wr h h' a i v) : own_A Z h' a ty (vs.set i v) := by
  obtain ⟨c, A, rfl⟩ := F; exact ⟨_, A.same W, by simp [Cell.setSlot]⟩
theorem own_in {c : Cell} {j : Int32} {i : Nat} (hn : ¬ j < 0) (hj : j.toNatClampNeg = i) (hi : i < c.slots.toList.length) : ¬ (j < 0 ∨ c.slots.size ≤ j.toNatClampNeg) := by
  rintro (h | h)
  · exact hn h
  · rw [hj] at h; rw [Array.length_toList] at hi; exact absurd hi (Nat.not_lt.mpr h)
theorem own_iaload (X : Stand p l e R s m args below meth c T locs cells slots) (hx : p.tables.exec = Jvm.exec) {Z : State} {h : Heap} (hZ : Z.Warmed39 s.vm) {a : Addr} {j : Int32} {i : Nat} {vs : List Value} (eT : T.heap = h) {v : Value} (F : own_A Z h a .int vs) (hn : ¬ j < 0) (hj : j.toNatClampNeg = i) (hv : vs[i]? = some v) (hd : decode c.code pc = .ok (.iaload, 1)) (hq : pc + 1 = q) (K : own_Go p e below P (T.setTop (mkF m q Ls (v :: st)))) : own_Go p e below P (T.setTop (mkF m pc Ls (.int j :: .ref a :: st))) := by
  subst hq
  obtain ⟨cl, A, rfl⟩ := F
  have hv' : cl.slots[j.toNatClampNeg]? = some v := by rw [hj, ← Array.getElem?_toList]; exact hv
  have hin := own_in (c := cl) hn hj (List.getElem?_eq_some_iff.mp hv).1
  exact own_via (fun t => X.iaload hx (by rw [eT]; exact A.1) (State.isArrayOf_alike hZ.alike A.2.1) A.2.2 hin hv' (g := mkF m pc Ls (.int j :: .ref a :: st)) rfl rfl hd t) K
theorem own_laload (X : Stand p l e R s m args below meth c T locs cells slots) (hx : p.tables.exec = Jvm.exec) {Z : State} {h : Heap} (hZ : Z.Warmed39 s.vm) {a : Addr} {j : Int32} {i : Nat} {vs : List Value} (eT : T.heap = h) {v : Value} (F : own_A Z h a .long vs) (hn : ¬ j < 0) (hj : j.toNatClampNeg = i) (hv : vs[i]? = some v) (hd : decode c.code pc = .ok (.laload, 1)) (hq : pc + 1 = q) (K : own_Go p e below P (T.setTop (mkF m q Ls (v :: st)))) : own_Go p e below P (T.setTop (mkF m pc Ls (.int j :: .ref a :: st))) := by
  subst hq
  obtain ⟨cl, A, rfl⟩ := F
  have hv' : cl.slots[j.toNatClampNeg]? = some v := by rw [hj, ← Array.getElem?_toList]; exact hv
  have hin := own_in (c := cl) hn hj (List.getElem?_eq_some_iff.mp hv).1
  exact own_via (fun t => X.laload hx (by rw [eT]; exact A.1) (State.isArrayOf_alike hZ.alike A.2.1) A.2.2 hin hv' (g := mkF m pc Ls (.int j :: .ref a :: st)) rfl rfl hd t) K
theorem own_caload (X : Stand p l e R s m args below meth c T locs cells slots) (hx : p.tables.exec = Jvm.exec) {Z : State} {h : Heap} (hZ : Z.Warmed39 s.vm) {a : Addr} {j : Int32} {i : Nat} {vs : List Value} (eT : T.heap = h) {v : Value} (F : own_A Z h a .char vs) (hn : ¬ j < 0) (hj : j.toNatClampNeg = i) (hv : vs[i]? = some v) (hd : decode c.code pc = .ok (.caload, 1)) (hq : pc + 1 = q) (K : own_Go p e below P (T.setTop (mkF m q Ls (v :: st)))) : own_Go p e below P (T.setTop (mkF m pc Ls (.int j :: .ref a :: st))) := by
  subst hq
  obtain ⟨cl, A, rfl⟩ := F
  have hv' : cl.slots[j.toNatClampNeg]? = some v := by rw [hj, ← Array.getElem?_toList]; exact hv
  have hin := own_in (c := cl) hn hj (List.getElem?_eq_some_iff.mp hv).1
  exact own_via (fun t => X.caload hx (by rw [eT]; exact A.1) (State.isArrayOf_alike hZ.alike A.2.1) A.2.2 hin hv' (g := mkF m pc Ls (.int j :: .ref a :: st)) rfl rfl hd t) K
theorem own_baload (X : Stand p l e R s m args below meth c T locs cells slots) (hx : p.tables.exec = Jvm.exec) {Z : State} {h : Heap} (hZ : Z.Warmed39 s.vm) {a : Addr} {j : Int32} {i : Nat} {vs : List Value} (eT : T.heap = h) {v : Value} (F : own_A Z h a .byte vs) (hn : ¬ j < 0) (hj : j.toNatClampNeg = i) (hv : vs[i]? = some v) (hd : decode c.code pc = .ok (.baload, 1)) (hq : pc + 1 = q) (K : own_Go p e below P (T.setTop (mkF m q Ls (v :: st)))) : own_Go p e below P (T.setTop (mkF m pc Ls (.int j :: .ref a :: st))) := by
  subst hq
  obtain ⟨cl, A, rfl⟩ := F
  have hv' : cl.slots[j.toNatClampNeg]? = some v := by rw [hj, ← Array.getElem?_toList]; exact hv
  have hin := own_in (c := cl) hn hj (List.getElem?_eq_some_iff.mp hv).1
  exact own_via (fun t => X.baloadBytes hx (by rw [eT]; exact A.1) (State.isArrayOf_alike hZ.alike A.2.1) A.2.2 hin hv' (g := mkF m pc Ls (.int j :: .ref a :: st)) rfl rfl hd t) K
theorem own_zaload (X : Stand p l e R s m args below meth c T locs cells slots) (hx : p.tables.exec = Jvm.exec) {Z : State} {h : Heap} (hZ : Z.Warmed39 s.vm) {a : Addr} {j : Int32} {i : Nat} {vs : List Value} (eT : T.heap = h) {v : Value} (F : own_A Z h a .boolean vs) (hn : ¬ j < 0) (hj : j.toNatClampNeg = i) (hv : vs[i]? = some v) (hd : decode c.code pc = .ok (.baload, 1)) (hq : pc + 1 = q) (K : own_Go p e below P (T.setTop (mkF m q Ls (v :: st)))) : own_Go p e below P (T.setTop (mkF m pc Ls (.int j :: .ref a :: st))) := by
  subst hq
  obtain ⟨cl, A, rfl⟩ := F
  have hv' : cl.slots[j.toNatClampNeg]? = some v := by rw [hj, ← Array.getElem?_toList]; exact hv
  have hin := own_in (c := cl) hn hj (List.getElem?_eq_some_iff.mp hv).1
  exact own_via (fun t => X.baloadBooleans hx (by rw [eT]; exact A.1) (State.isArrayOf_alike hZ.alike A.2.1) A.2.2 hin hv' (g := mkF m pc Ls (.int j :: .ref a :: st)) rfl rfl hd t) K
theorem own_alen (X : Stand p l e R s m args below meth c T locs cells slots) (hx : p.tables.exec = Jvm.exec) {Z : State} {h : Heap} (hZ : Z.Warmed39 s.vm) {a : Addr} {vs : List Value} {ty : FieldType} {n : Int32} (eT : T.heap = h) (F : own_A Z h a ty vs) (hn : vs.length.toInt32 = n) (hd : decode c.code pc = .ok (.arraylength, 1)) (hq : pc + 1 = q) (K : own_Go p e below P (T.setTop (mkF m q Ls (.int n :: st)))) : own_Go p e below P (T.setTop (mkF m pc Ls (.ref a :: st))) := by
  subst hq
  obtain ⟨cl, A, rfl⟩ := F
  rw [Array.length_toList] at hn
  subst hn
  exact own_via (fun t => X.arraylength hx (by rw [eT]; exact A.1) (State.isArrayOf_alike hZ.alike A.2.1) (g := mkF m pc Ls (.ref a :: st)) rfl rfl hd t) K
theorem own_iastore (X : Stand p l e R s m args below meth c T locs cells slots) (hx : p.tables.exec = Jvm.exec) {Z : State} {h : Heap} (hZ : Z.Warmed39 s.vm) {a : Addr} {j : Int32} {i : Nat} {vs : List Value} (eT : T.heap = h) {x : Int32} (F : own_A Z h a .int vs) (hn : ¬ j < 0) (hj : j.toNatClampNeg = i) (hi : i < vs.length) (hd : decode c.code pc = .ok (.iastore, 1)) (hq : pc + 1 = q) (K : ∀ T' h', Stand p l e R s m args below meth c T' (locs ++ [⟨a, i⟩]) cells slots → T'.heap = h' → Wr h h' a i (.int x) → own_A Z h' a .int (vs.set i (.int x)) → own_Go p e below P (T'.setTop (mkF m q Ls st))) : own_Go p e below P (T.setTop (mkF m pc Ls (.int x :: .int j :: .ref a :: st))) := by
  subst hq hj
  have F' := F
  obtain ⟨cl, A, rfl⟩ := F
  have hin := own_in (c := cl) hn rfl hi
  obtain ⟨T', h', X', e', W', st'⟩ := stI X hx hZ eT A hin (g := mkF m pc Ls (.int x :: .int j :: .ref a :: st)) rfl rfl hd
  exact own_via (fun t => st' t) (K T' h' X' e' W' (F'.set W'))
theorem own_lastore (X : Stand p l e R s m args below meth c T locs cells slots) (hx : p.tables.exec = Jvm.exec) {Z : State} {h : Heap} (hZ : Z.Warmed39 s.vm) {a : Addr} {j : Int32} {i : Nat} {vs : List Value} (eT : T.heap = h) {x : Int64} (F : own_A Z h a .long vs) (hn : ¬ j < 0) (hj : j.toNatClampNeg = i) (hi : i < vs.length) (hd : decode c.code pc = .ok (.lastore, 1)) (hq : pc + 1 = q) (K : ∀ T' h', Stand p l e R s m args below meth c T' (locs ++ [⟨a, i⟩]) cells slots → T'.heap = h' → Wr h h' a i (.long x) → own_A Z h' a .long (vs.set i (.long x)) → own_Go p e below P (T'.setTop (mkF m q Ls st))) : own_Go p e below P (T.setTop (mkF m pc Ls (.long x :: .int j :: .ref a :: st))) := by
  subst hq hj
  have F' := F
  obtain ⟨cl, A, rfl⟩ := F
  have hin := own_in (c := cl) hn rfl hi
  obtain ⟨T', h', X', e', W', st'⟩ := stJ X hx hZ eT A hin (g := mkF m pc Ls (.long x :: .int j :: .ref a :: st)) rfl rfl hd
  exact own_via (fun t => st' t) (K T' h' X' e' W' (F'.set W'))
theorem own_castore (X : Stand p l e R s m args below meth c T locs cells slots) (hx : p.tables.exec = Jvm.exec) {Z : State} {h : Heap} (hZ : Z.Warmed39 s.vm) {a : Addr} {j : Int32} {i : Nat} {vs : List Value} (eT : T.heap = h) {x : Int32} (F : own_A Z h a .char vs) (hn : ¬ j < 0) (hj : j.toNatClampNeg = i) (hi : i < vs.length) (hd : decode c.code pc = .ok (.castore, 1)) (hq : pc + 1 = q) (K : ∀ T' h', Stand p l e R s m args below meth c T' (locs ++ [⟨a, i⟩]) cells slots → T'.heap = h' → Wr h h' a i (.int (nar .char x)) → own_A Z h' a .char (vs.set i (.int (nar .char x))) → own_Go p e below P (T'.setTop (mkF m q Ls st))) : own_Go p e below P (T.setTop (mkF m pc Ls (.int x :: .int j :: .ref a :: st))) := by
  subst hq hj
  have F' := F
  obtain ⟨cl, A, rfl⟩ := F
  have hin := own_in (c := cl) hn rfl hi
  obtain ⟨T', h', X', e', W', st'⟩ := stC X hx hZ eT A hin (g := mkF m pc Ls (.int x :: .int j :: .ref a :: st)) rfl rfl hd
  exact own_via (fun t => st' t) (K T' h' X' e' W' (F'.set W'))
theorem own_bastore (X : Stand p l e R s m args below meth c T locs cells slots) (hx : p.tables.exec = Jvm.exec) {Z : State} {h : Heap} (hZ : Z.Warmed39 s.vm) {a : Addr} {j : Int32} {i : Nat} {vs : List Value} (eT : T.heap = h) {x : Int32} (F : own_A Z h a .byte vs) (hn : ¬ j < 0) (hj : j.toNatClampNeg = i) (hi : i < vs.length) (hd : decode c.code pc = .ok (.bastore, 1)) (hq : pc + 1 = q) (K : ∀ T' h', Stand p l e R s m args below meth c T' (locs ++ [⟨a, i⟩]) cells slots → T'.heap = h' → Wr h h' a i (.int x.toInt8.toInt32) → own_A Z h' a .byte (vs.set i (.int x.toInt8.toInt32)) → own_Go p e below P (T'.setTop (mkF m q Ls st))) : own_Go p e below P (T.setTop (mkF m pc Ls (.int x :: .int j :: .ref a :: st))) := by
  subst hq hj
  have F' := F
  obtain ⟨cl, A, rfl⟩ := F
  have hin := own_in (c := cl) hn rfl hi
  obtain ⟨T', h', X', e', W', st'⟩ := stB X hx hZ eT A hin (g := mkF m pc Ls (.int x :: .int j :: .ref a :: st)) rfl rfl hd
  exact own_via (fun t => st' t) (K T' h' X' e' W' (F'.set W'))
theorem own_zastore (X : Stand p l e R s m args below meth c T locs cells slots) (hx : p.tables.exec = Jvm.exec) {Z : State} {h : Heap} (hZ : Z.Warmed39 s.vm) {a : Addr} {j : Int32} {i : Nat} {vs : List Value} (eT : T.heap = h) {x : Int32} (F : own_A Z h a .boolean vs) (hn : ¬ j < 0) (hj : j.toNatClampNeg = i) (hi : i < vs.length) (hd : decode c.code pc = .ok (.bastore, 1)) (hq : pc + 1 = q) (K : ∀ T' h', Stand p l e R s m args below meth c T' (locs ++ [⟨a, i⟩]) cells slots → T'.heap = h' → Wr h h' a i (.int (nar .boolean x)) → own_A Z h' a .boolean (vs.set i (.int (nar .boolean x))) → own_Go p e below P (T'.setTop (mkF m q Ls st))) : own_Go p e below P (T.setTop (mkF m pc Ls (.int x :: .int j :: .ref a :: st))) := by
  subst hq hj
  have F' := F
  obtain ⟨cl, A, rfl⟩ := F
  have hin := own_in (c := cl) hn rfl hi
  obtain ⟨T', h', X', e', W', st'⟩ := stZ X hx hZ eT A hin (g := mkF m pc Ls (.int x :: .int j :: .ref a :: st)) rfl rfl hd
  exact own_via (fun t => st' t) (K T' h' X' e' W' (F'.set W'))
theorem own_newA (X : Stand p l e R s m args below meth c T locs cells slots) (hx : p.tables.exec = Jvm.exec) {Z : State} {a0 : Array Value} {h : Heap} (hZ : Z.Warmed39 s.vm) {aty : ArrayType} {ty : FieldType} {n : Int32} {k cap : Nat} (hty : newarray.typeOf aty = ty) (w : (Cond.arrayClass ty).before a0 Z = true) (eT : T.heap = h) (hn : ¬ n < 0) (hk : n.toNatClampNeg = k) (hcap : k ≤ cap) (hb8 : cap * 8 ≤ 536870912) (hc : cells + 1 ≤ R.cells) (hl : slots + cap ≤ R.slots) (hd : decode c.code pc = .ok (.newarray aty, 2)) (hq : pc + 2 = q) (K : ∀ T' h' a, Stand p l e R s m args below meth c T' locs (cells + 1) (slots + cap) → T'.heap = h' → a = h.size → Ext h h' → own_A Z h' a ty (List.replicate k (defaultValue ty)) → own_Go p e below P (T'.setTop (mkF m q Ls (.ref a :: st)))) : own_Go p e below P (T.setTop (mkF m pc Ls (.int n :: st))) := by
  subst hq hty hk
  obtain ⟨T', h', cA, X', e', E', A', st'⟩ := newP X hx hZ w eT (g := mkF m pc Ls (.int n :: st)) rfl hd rfl hn hcap hb8 hc hl
  exact own_via (fun t => st' t) (K T' h' _ X' e' rfl E' ⟨_, A', by simp [newA]⟩)
theorem own_lswHit (X : Stand p l e R s m args below meth c T locs cells slots) (hx : p.tables.exec = Jvm.exec) {k : Int32} {dflt : Int} {prs : Array (Int × Int)} {len : Nat} {v : Int32} {b off : Int} (hk : k = v) (hd : decode c.code pc = .ok (.lookupswitch dflt prs, len)) (hs : (prs.toList.zip (prs.toList.drop 1)).all (fun (a, next) => a.1 < next.1) = true) (hf : prs.find? (·.1 == v.toInt) = some (b, off)) (ho : 0 ≤ (pc : Int) + off) (hp : ((pc : Int) + off).toNat = q) (K : own_Go p e below P (T.setTop (mkF m q Ls st))) : own_Go p e below P (T.setTop (mkF m pc Ls (.int k :: st))) := by
  subst hk hp; exact own_via (fun t => X.lookupswitchHit hx (g := mkF m pc Ls (.int k :: st)) rfl rfl hd hs hf ho t) K
theorem own_lswMiss (X : Stand p l e R s m args below meth c T locs cells slots) (hx : p.tables.exec = Jvm.exec) {k : Int32} {dflt : Int} {prs : Array (Int × Int)} {len : Nat} (hm : prs.find? (·.1 == k.toInt) = none) (hd : decode c.code pc = .ok (.lookupswitch dflt prs, len)) (hs : (prs.toList.zip (prs.toList.drop 1)).all (fun (a, next) => a.1 < next.1) = true) (ho : 0 ≤ (pc : Int) + dflt) (hp : ((pc : Int) + dflt).toNat = q) (K : own_Go p e below P (T.setTop (mkF m q Ls st))) : own_Go p e below P (T.setTop (mkF m pc Ls (.int k :: st))) := by
  subst hp; exact own_via (fun t => X.lookupswitchMiss hx (g := mkF m pc Ls (.int k :: st)) rfl rfl hd hs hm ho t) K
theorem own_instY (X : Stand p l e R s m args below meth c T locs cells slots) (hx : p.tables.exec = Jvm.exec) {Z : State} {a0 : Array Value} {h : Heap} (hZ : Z.Warmed39 s.vm) {own : String} {i : Nat} (hown : s.vm.findClass own = some m.cls) {a : Addr} {K0 : String} (w : (Cond.classLink own i K0).before a0 Z = true) (eT : T.heap = h) (F : Ins Z h a K0 true) (hd : decode c.code pc = .ok (.instanceof i, 3)) (hq : pc + 3 = q) (K : ∀ T', Stand p l e R s m args below meth c T' locs cells slots → T'.heap = h → own_Go p e below P (T'.setTop (mkF m q Ls (.int 1 :: st)))) : own_Go p e below P (T.setTop (mkF m pc Ls (.ref a :: st))) := by
  subst hq
  obtain ⟨T', X', e', st'⟩ := instY X hx hZ hown w eT F (g := mkF m pc Ls (.ref a :: st)) rfl rfl hd
  exact own_via (fun t => st' t) (K T' X' e')
theorem own_instN (X : Stand p l e R s m args below meth c T locs cells slots) (hx : p.tables.exec = Jvm.exec) {Z : State} {a0 : Array Value} {h : Heap} (hZ : Z.Warmed39 s.vm) {own : String} {i : Nat} (hown : s.vm.findClass own = some m.cls) {a : Addr} {K0 C : String} (w : (Cond.classLink own i K0).before a0 Z = true) (eT : T.heap = h) (E : Exa Z h a C) (F : ∃ c t, Z.vm.findClass C = some c ∧ Z.vm.findClass K0 = some t ∧ Z.vm.assignable c t = false) (hd : decode c.code pc = .ok (.instanceof i, 3)) (hq : pc + 3 = q) (K : ∀ T', Stand p l e R s m args below meth c T' locs cells slots → T'.heap = h → own_Go p e below P (T'.setTop (mkF m q Ls (.int 0 :: st)))) : own_Go p e below P (T.setTop (mkF m pc Ls (.ref a :: st))) := by
  subst hq
  obtain ⟨T', X', e', st'⟩ := instNo X hx hZ hown w eT E F (g := mkF m pc Ls (.ref a :: st)) rfl rfl hd
  exact own_via (fun t => st' t) (K T' X' e')
theorem own_cast (X : Stand p l e R s m args below meth c T locs cells slots) (hx : p.tables.exec = Jvm.exec) {Z : State} {a0 : Array Value} {h : Heap} (hZ : Z.Warmed39 s.vm) {own : String} {i : Nat} (hown : s.vm.findClass own = some m.cls) {a : Addr} {K0 : String} (w : (Cond.classLink own i K0).before a0 Z = true) (eT : T.heap = h) (F : Ins Z h a K0 true) (hd : decode c.code pc = .ok (.checkcast i, 3)) (hq : pc + 3 = q) (K : ∀ T', Stand p l e R s m args below meth c T' locs cells slots → T'.heap = h → own_Go p e below P (T'.setTop (mkF m q Ls (.ref a :: st)))) : own_Go p e below P (T.setTop (mkF m pc Ls (.ref a :: st))) := by
  subst hq
  obtain ⟨T', X', e', st'⟩ := castY X hx hZ hown w eT F (g := mkF m pc Ls (.ref a :: st)) rfl rfl hd
  exact own_via (fun t => st' t) (K T' X' e')
theorem own_inst0 (X : Stand p l e R s m args below meth c T locs cells slots) (hx : p.tables.exec = Jvm.exec) {i : Nat} (hd : decode c.code pc = .ok (.instanceof i, 3)) (hq : pc + 3 = q) (K : own_Go p e below P (T.setTop (mkF m q Ls (.int 0 :: st)))) : own_Go p e below P (T.setTop (mkF m pc Ls (.null :: st))) := by
  subst hq; exact own_via (fun t => X.instanceofNull hx (g := mkF m pc Ls (.null :: st)) rfl (rest := st) rfl hd t) K
theorem own_staKeep {Z : State} {h h' : Heap} {ws : List Addr} {C n d : String} {v : Value} (F : Sta Z h C n d v) (K : Keep h h' ws) (q : ∀ a ∈ ws, ∀ c : Cell, h[a]? = some c → c.vm.isStatics = false) : Sta Z h' C n d v := by
  obtain ⟨cf, i, k, f, st, cell, h1, h2, h3, h4, h5, h6, h7⟩ := F
  exact ⟨cf, i, k, f, st, cell, h1, h2, h3, h4, K.2.1 st cell h5 (fun hm => by rw [q st hm cell h5] at h6; cases h6), h6, h7⟩
theorem own_exaPlain {Z : State} {h : Heap} {a : Addr} {C : String} (E : Exa Z h a C) : ∀ c : Cell, h[a]? = some c → c.vm.isStatics = false := fun c hc => by
  obtain ⟨cell, k, h1, -, -, h4, -⟩ := E
  cases h1.symm.trans hc; exact h4
theorem own_A.plain {Z : State} {h : Heap} {a : Addr} {ty : FieldType} {vs : List Value} (F : own_A Z h a ty vs) : ∀ c : Cell, h[a]? = some c → c.vm.isStatics = false := fun c hc => by
  obtain ⟨cl, A, -⟩ := F
  cases A.1.symm.trans hc; exact A.plain
theorem own_callCB (X : Stand p l e R s m args below meth c T locs cells slots) (hx : p.tables.exec = Jvm.exec) {a : Addr} {Z : State} {a0 : Array Value} {h : Heap} {own : String} {index : Nat} {y : MethodName} {bytes : ByteArray} {maxL : Nat} {k1 k2 : Nat} {W : Nat} {argsL : List Value} {Qc : Option Value → Heap → List Loc → Prop} {ps : List FieldType} {r : Option FieldType} {st0 : List Value} (hZ : Z.Warmed39 s.vm) (hown : s.vm.findClass own = some m.cls) (hy1 : y.name = "<init>") (w1 : (Cond.methodLink own index y).before a0 Z = true) (w2 : (Cond.instanceMethod y).before a0 Z = true) (w4 : (Cond.code y bytes maxL none).before a0 Z = true) (hy : y.cls ≠ "java/lang/invoke/MethodHandle" ∧ y.cls ≠ "java/lang/invoke/VarHandle") (hK : Back l R p e below s args y 3 W (fun P aa => aa = (.ref a :: argsL).toArray ∧ P.U.heap = h ∧ P.cells + k1 ≤ R.cells ∧ P.slots + k2 ≤ R.slots) (fun P _ v B => ∃ L, Qc v B.U.heap L ∧ B.locs = P.locs ++ L ∧ B.cells = P.cells + k1 ∧ B.slots = P.slots + k2)) (hpd : parseMethodDescriptor y.desc = some ⟨ps, r⟩) (hlen : argsL.length = ps.length) (eT : T.heap = h) (hml : Ls.size = c.maxLocals) (hst : st0 = argsL.reverse ++ .ref a :: st) (hW : (st.map fun v => v.category).sum ≤ W) (hc : cells + k1 ≤ R.cells) (hs : slots + k2 ≤ R.slots) (hd : decode c.code pc = .ok (.invokespecial index, 3)) (hq : pc + 3 = q) (K : ∀ v T' L, Stand p l e R s m args below meth c T' (locs ++ L) (cells + k1) (slots + k2) → Qc v T'.heap L → own_Go p e below P (T'.setTop (mkF m q Ls (v.toList ++ st)))) : own_Go p e below P (T.setTop (mkF m pc Ls st0)) := by
  subst hq hst
  obtain ⟨v, _, ⟨T', L', k', n'⟩, -, X', ⟨Lc, hQ, l', y', z'⟩, st'⟩ := X.specialBack hx hy1 hown (mvT hZ w1) (mvT hZ w2) (mvT hZ w4) hy hK (g := mkF m pc Ls (argsL.reverse ++ .ref a :: st)) rfl hml (Steps.refl _) (a := a) (argsL := argsL) (rest := st) (lenOf hpd hlen) rfl (by show 2 * 0 + _ ≤ _; omega) hd (fun _ _ => ⟨rfl, eT, hc, hs⟩)
  dsimp only [Pt.U, Pt.locs, Pt.cells, Pt.slots] at X' l' y' z' st' hQ
  subst l' y' z'
  exact own_via (fun t => st'.trans) (K v T' Lc X' hQ)
theorem own_A.arv {Z : State} {h : Heap} {a : Addr} {ty : FieldType} {vs : List Value} {N : Int32} {d : Value} (F : own_A Z h a ty vs) (hN : N.toNatClampNeg = vs.length) (hn : ¬ N < 0) (hf : ∀ v ∈ vs, fits ty v = true) : ∃ k, Arv Z h a k ty N vs d := by
  obtain ⟨c, A, rfl⟩ := F
  rw [Array.length_toList] at hN
  have key : ∀ i, i < c.slots.size → c.slots.toList.getD i d = c.slots[i]! ∧ c.slots[i]? = some (c.slots.toList.getD i d) ∧ c.slots.toList.getD i d ∈ c.slots.toList := fun i hi => by
    have h1 : c.slots.toList[i]? = some c.slots[i] := by rw [Array.getElem?_toList]; exact Array.getElem?_eq_getElem hi
    have h2 : c.slots.toList.getD i d = c.slots[i] := by rw [List.getD_eq_getElem?_getD, h1]; rfl
    refine ⟨by rw [h2, getElem!_pos c.slots i hi], by rw [h2]; exact Array.getElem?_eq_getElem hi, ?_⟩
    rw [h2]; exact Array.getElem_mem_toList hi
  exact ⟨c.cls, c, A, rfl, hN.symm, hn, fun i hi => (key i hi).2.1, fun i hi => hf _ (key i hi).2.2⟩
theorem own_A.of_arv {Z : State} {h : Heap} {a : Addr} {k : ClassId} {ty : FieldType} {vs : List Value} {N : Int32} {d : Value} (F : Arv Z h a k ty N vs d) (hN : N.toNatClampNeg = vs.length) : own_A Z h a ty vs := by
  obtain ⟨c, A, -, S, -, H, -⟩ := F
  refine ⟨c, A, List.ext_getElem? fun i => ?_⟩
  rw [Array.getElem?_toList]
  by_cases hi : i < c.slots.size
  · have hj : i < vs.length := by rw [← hN, ← S]; exact hi
    rw [H i hi, List.getD_eq_getElem?_getD, List.getElem?_eq_getElem hj]; rfl
  · have hj : ¬ i < vs.length := by rw [← hN, ← S]; exact hi
    rw [Array.getElem?_eq_none (Nat.le_of_not_lt hi), List.getElem?_eq_none (Nat.le_of_not_lt hj)]
theorem own_callSP (X : Stand p l e R s m args below meth c T locs cells slots) (hx : p.tables.exec = Jvm.exec) {Z : State} {a0 : Array Value} {h : Heap} {own : String} {index : Nat} {y : MethodName} {bytes : ByteArray} {maxL : Nat} {ret : Option FieldType} {W : Nat} {argsL : List Value} {fr lo : Nat} {w : Value} {ps : List FieldType} {r : Option FieldType} {st0 : List Value} (hZ : Z.Warmed39 s.vm) (hown : s.vm.findClass own = some m.cls) (w1 : (Cond.methodLink own index y).before a0 Z = true) (w2 : (Cond.static y).before a0 Z = true) (w3 : (Cond.initialized y.cls).before a0 Z = true) (w4 : (Cond.code y bytes maxL ret).before a0 Z = true) (hy : y.cls ≠ "java/lang/invoke/MethodHandle" ∧ y.cls ≠ "java/lang/invoke/VarHandle") (hM : MetFree l y (head1 [Cond.code y bytes maxL ret] ({ frames := fr, cells := 0, slots := 0, locals := lo } : Room)) (fun aa U => aa = argsL.toArray ∧ Z.Warmed39 U.vm ∧ U.heap = h) (fun _ _ _ _ _ => True) (fun _ U o U' => ∃ v L, o = .returned v ∧ own_P w h v U'.heap L ∧ FrameEnd U o U' L 0 0)) (hpd : parseMethodDescriptor y.desc = some ⟨ps, r⟩) (hlen : argsL.length = ps.length) (eT : T.heap = h) (hml : Ls.size = c.maxLocals) (hst : st0 = argsL.reverse ++ st) (hW : (st.map fun v => v.category).sum ≤ W) (hf : fr + 1 ≤ R.frames) (hl : W + (maxL + 11) + lo ≤ R.locals) (hc : cells ≤ R.cells) (hs : slots ≤ R.slots) (hd : decode c.code pc = .ok (.invokestatic index, 3)) (hq : pc + 3 = q) (K : ∀ T', Stand p l e R s m args below meth c T' locs cells slots → T'.heap = h → own_Go p e below P (T'.setTop (mkF m q Ls (w :: st)))) : own_Go p e below P (T.setTop (mkF m pc Ls st0)) := by
  refine own_callS X hx hZ hown w1 w2 w3 w4 hy hM hpd hlen eT hml hst hW hf hl hc hs hd hq fun v T' L X' hQ => ?_
  obtain ⟨rfl, eh, rfl⟩ := hQ
  rw [List.append_nil] at X'
  exact K T' X' eh
theorem own_callVP (X : Stand p l e R s m args below meth c T locs cells slots) (hx : p.tables.exec = Jvm.exec) {a : Addr} {C : String} {z : MethodName} {Z : State} {a0 : Array Value} {h : Heap} {own : String} {index : Nat} {y : MethodName} {bytes : ByteArray} {maxL : Nat} {ret : Option FieldType} {W : Nat} {argsL : List Value} {fr lo : Nat} {w : Value} {ps : List FieldType} {r : Option FieldType} {st0 : List Value} (hZ : Z.Warmed39 s.vm) (hown : s.vm.findClass own = some m.cls) (w1 : (Cond.methodLink own index y).before a0 Z = true) (w2 : (Cond.declares y).before a0 Z = true) (w5 : (Cond.selects y.cls y y).before a0 Z = true) (w6 : (Cond.selects C y z).before a0 Z = true) (w7 : (Cond.instanceMethod z).before a0 Z = true) (w3 : (Cond.initialized z.cls).before a0 Z = true) (w4 : (Cond.code z bytes maxL ret).before a0 Z = true) (E : Exa Z h a C) (hy : y.cls ≠ "java/lang/invoke/MethodHandle" ∧ y.cls ≠ "java/lang/invoke/VarHandle") (hM : MetFree l z (head1 [Cond.code z bytes maxL ret] ({ frames := fr, cells := 0, slots := 0, locals := lo } : Room)) (fun aa U => aa = (.ref a :: argsL).toArray ∧ Z.Warmed39 U.vm ∧ U.heap = h) (fun _ _ _ _ _ => True) (fun _ U o U' => ∃ v L, o = .returned v ∧ own_P w h v U'.heap L ∧ FrameEnd U o U' L 0 0)) (hpd : parseMethodDescriptor y.desc = some ⟨ps, r⟩) (hlen : argsL.length = ps.length) (eT : T.heap = h) (hml : Ls.size = c.maxLocals) (hst : st0 = argsL.reverse ++ .ref a :: st) (hW : (st.map fun v => v.category).sum ≤ W) (hf : fr + 1 ≤ R.frames) (hl : W + (maxL + 11) + lo ≤ R.locals) (hc : cells ≤ R.cells) (hs : slots ≤ R.slots) (hd : decode c.code pc = .ok (.invokevirtual index, 3)) (hq : pc + 3 = q) (K : ∀ T', Stand p l e R s m args below meth c T' locs cells slots → T'.heap = h → own_Go p e below P (T'.setTop (mkF m q Ls (w :: st)))) : own_Go p e below P (T.setTop (mkF m pc Ls st0)) := by
  refine own_callV X hx hZ hown w1 w2 w5 w6 w7 w3 w4 E hy hM hpd hlen eT hml hst hW hf hl hc hs hd hq fun v T' L X' hQ => ?_
  obtain ⟨rfl, eh, rfl⟩ := hQ
  rw [List.append_nil] at X'
  exact K T' X' eh
theorem own_callCV (X : Stand p l e R s m args below meth c T locs cells slots) (hx : p.tables.exec = Jvm.exec) {a : Addr} {Z : State} {a0 : Array Value} {h : Heap} {own : String} {index : Nat} {y : MethodName} {bytes : ByteArray} {maxL : Nat} {W : Nat} {argsL : List Value} {fr lo : Nat} {ps : List FieldType} {r : Option FieldType} {st0 : List Value} (hZ : Z.Warmed39 s.vm) (hown : s.vm.findClass own = some m.cls) (hy1 : y.name = "<init>") (w1 : (Cond.methodLink own index y).before a0 Z = true) (w2 : (Cond.instanceMethod y).before a0 Z = true) (w3 : (Cond.initialized y.cls).before a0 Z = true) (w4 : (Cond.code y bytes maxL none).before a0 Z = true) (hy : y.cls ≠ "java/lang/invoke/MethodHandle" ∧ y.cls ≠ "java/lang/invoke/VarHandle") (hM : MetFree l y (head1 [Cond.code y bytes maxL none] ({ frames := fr, cells := 0, slots := 0, locals := lo } : Room)) (fun aa U => aa = (.ref a :: argsL).toArray ∧ Z.Warmed39 U.vm ∧ U.heap = h) (fun _ _ _ _ _ => True) (fun _ U o U' => ∃ v L, o = .returned v ∧ own_V h v U'.heap L ∧ FrameEnd U o U' L 0 0)) (hpd : parseMethodDescriptor y.desc = some ⟨ps, r⟩) (hlen : argsL.length = ps.length) (eT : T.heap = h) (hml : Ls.size = c.maxLocals) (hst : st0 = argsL.reverse ++ .ref a :: st) (hW : (st.map fun v => v.category).sum ≤ W) (hf : fr + 1 ≤ R.frames) (hl : W + (maxL + 11) + lo ≤ R.locals) (hc : cells ≤ R.cells) (hs : slots ≤ R.slots) (hd : decode c.code pc = .ok (.invokespecial index, 3)) (hq : pc + 3 = q) (K : ∀ T', Stand p l e R s m args below meth c T' locs cells slots → T'.heap = h → own_Go p e below P (T'.setTop (mkF m q Ls st))) : own_Go p e below P (T.setTop (mkF m pc Ls st0)) := by
  refine own_callC X hx hZ hown hy1 w1 w2 w3 w4 hy hM hpd hlen eT hml hst hW hf hl hc hs hd hq fun v T' L X' hQ => ?_
  obtain ⟨rfl, eh, rfl⟩ := hQ
  rw [List.append_nil] at X'
  exact K T' X' eh
theorem own_callSV (X : Stand p l e R s m args below meth c T locs cells slots) (hx : p.tables.exec = Jvm.exec) {Z : State} {a0 : Array Value} {h : Heap} {own : String} {index : Nat} {y : MethodName} {bytes : ByteArray} {maxL : Nat} {ret : Option FieldType} {W : Nat} {argsL : List Value} {fr lo : Nat} {ps : List FieldType} {r : Option FieldType} {st0 : List Value} (hZ : Z.Warmed39 s.vm) (hown : s.vm.findClass own = some m.cls) (w1 : (Cond.methodLink own index y).before a0 Z = true) (w2 : (Cond.static y).before a0 Z = true) (w3 : (Cond.initialized y.cls).before a0 Z = true) (w4 : (Cond.code y bytes maxL ret).before a0 Z = true) (hy : y.cls ≠ "java/lang/invoke/MethodHandle" ∧ y.cls ≠ "java/lang/invoke/VarHandle") (hM : MetFree l y (head1 [Cond.code y bytes maxL ret] ({ frames := fr, cells := 0, slots := 0, locals := lo } : Room)) (fun aa U => aa = argsL.toArray ∧ Z.Warmed39 U.vm ∧ U.heap = h) (fun _ _ _ _ _ => True) (fun _ U o U' => ∃ v L, o = .returned v ∧ own_V h v U'.heap L ∧ FrameEnd U o U' L 0 0)) (hpd : parseMethodDescriptor y.desc = some ⟨ps, r⟩) (hlen : argsL.length = ps.length) (eT : T.heap = h) (hml : Ls.size = c.maxLocals) (hst : st0 = argsL.reverse ++ st) (hW : (st.map fun v => v.category).sum ≤ W) (hf : fr + 1 ≤ R.frames) (hl : W + (maxL + 11) + lo ≤ R.locals) (hc : cells ≤ R.cells) (hs : slots ≤ R.slots) (hd : decode c.code pc = .ok (.invokestatic index, 3)) (hq : pc + 3 = q) (K : ∀ T', Stand p l e R s m args below meth c T' locs cells slots → T'.heap = h → own_Go p e below P (T'.setTop (mkF m q Ls st))) : own_Go p e below P (T.setTop (mkF m pc Ls st0)) := by
  refine own_callS X hx hZ hown w1 w2 w3 w4 hy hM hpd hlen eT hml hst hW hf hl hc hs hd hq fun v T' L X' hQ => ?_
  obtain ⟨rfl, eh, rfl⟩ := hQ
  rw [List.append_nil] at X'
  exact K T' X' eh
theorem own_callVV (X : Stand p l e R s m args below meth c T locs cells slots) (hx : p.tables.exec = Jvm.exec) {a : Addr} {C : String} {z : MethodName} {Z : State} {a0 : Array Value} {h : Heap} {own : String} {index : Nat} {y : MethodName} {bytes : ByteArray} {maxL : Nat} {ret : Option FieldType} {W : Nat} {argsL : List Value} {fr lo : Nat} {ps : List FieldType} {r : Option FieldType} {st0 : List Value} (hZ : Z.Warmed39 s.vm) (hown : s.vm.findClass own = some m.cls) (w1 : (Cond.methodLink own index y).before a0 Z = true) (w2 : (Cond.declares y).before a0 Z = true) (w5 : (Cond.selects y.cls y y).before a0 Z = true) (w6 : (Cond.selects C y z).before a0 Z = true) (w7 : (Cond.instanceMethod z).before a0 Z = true) (w3 : (Cond.initialized z.cls).before a0 Z = true) (w4 : (Cond.code z bytes maxL ret).before a0 Z = true) (E : Exa Z h a C) (hy : y.cls ≠ "java/lang/invoke/MethodHandle" ∧ y.cls ≠ "java/lang/invoke/VarHandle") (hM : MetFree l z (head1 [Cond.code z bytes maxL ret] ({ frames := fr, cells := 0, slots := 0, locals := lo } : Room)) (fun aa U => aa = (.ref a :: argsL).toArray ∧ Z.Warmed39 U.vm ∧ U.heap = h) (fun _ _ _ _ _ => True) (fun _ U o U' => ∃ v L, o = .returned v ∧ own_V h v U'.heap L ∧ FrameEnd U o U' L 0 0)) (hpd : parseMethodDescriptor y.desc = some ⟨ps, r⟩) (hlen : argsL.length = ps.length) (eT : T.heap = h) (hml : Ls.size = c.maxLocals) (hst : st0 = argsL.reverse ++ .ref a :: st) (hW : (st.map fun v => v.category).sum ≤ W) (hf : fr + 1 ≤ R.frames) (hl : W + (maxL + 11) + lo ≤ R.locals) (hc : cells ≤ R.cells) (hs : slots ≤ R.slots) (hd : decode c.code pc = .ok (.invokevirtual index, 3)) (hq : pc + 3 = q) (K : ∀ T', Stand p l e R s m args below meth c T' locs cells slots → T'.heap = h → own_Go p e below P (T'.setTop (mkF m q Ls st))) : own_Go p e below P (T.setTop (mkF m pc Ls st0)) := by
  refine own_callV X hx hZ hown w1 w2 w5 w6 w7 w3 w4 E hy hM hpd hlen eT hml hst hW hf hl hc hs hd hq fun v T' L X' hQ => ?_
  obtain ⟨rfl, eh, rfl⟩ := hQ
  rw [List.append_nil] at X'
  exact K T' X' eh
end OwnKit
def own_cat6 (a0 a1 a2 a3 a4 a5 j : Int32) : Int32 := if j = 0 then a0 else if j = 1 then a1 else if j = 2 then a2 else if j = 3 then a3 else if j = 4 then a4 else a5
def own_up (j i v w : Int32) : Int32 := if j = i then v else w
def own_r6 (j : Int32) : Prop := j = 0 ∨ j = 1 ∨ j = 2 ∨ j = 3 ∨ j = 4 ∨ j = 5
theorem own_nn6 {j : Int32} (h : own_r6 j) : ¬ j < 0 := by rcases h with rfl | rfl | rfl | rfl | rfl | rfl <;> decide
theorem own_lt6 {j : Int32} (h : own_r6 j) : j.toNatClampNeg < 6 := by rcases h with rfl | rfl | rfl | rfl | rfl | rfl <;> decide
theorem own_cat6V {a0 a1 a2 a3 a4 a5 j : Int32} (h : own_r6 j) : ([.int a0, .int a1, .int a2, .int a3, .int a4, .int a5] : List Value)[j.toNatClampNeg]? = some (.int (own_cat6 a0 a1 a2 a3 a4 a5 j)) := by
  rcases h with rfl | rfl | rfl | rfl | rfl | rfl <;> rfl
theorem own_set6 {a0 a1 a2 a3 a4 a5 j v : Int32} (h : own_r6 j) : ([.int a0, .int a1, .int a2, .int a3, .int a4, .int a5] : List Value).set j.toNatClampNeg (.int v) = [.int (own_up j 0 v a0), .int (own_up j 1 v a1), .int (own_up j 2 v a2), .int (own_up j 3 v a3), .int (own_up j 4 v a4), .int (own_up j 5 v a5)] := by
  rcases h with rfl | rfl | rfl | rfl | rfl | rfl <;> rfl
def own_S1 (x0 : Int32) : Prop := (x0 = 0) ∨ (x0 = 1) ∨ (x0 = 2) ∨ (x0 = 3) ∨ (x0 = 4) ∨ (x0 = 5)
theorem own_S1_0 {x0 : Int32} (h : own_S1 x0) : own_r6 x0 := by
  unfold own_S1 at h; unfold own_r6; rcases h with rfl | rfl | rfl | rfl | rfl | rfl <;> decide
def own_S2 (x0 x1 : Int32) : Prop := (x0 = 0 ∧ x1 = 1) ∨ (x0 = 0 ∧ x1 = 2) ∨ (x0 = 0 ∧ x1 = 3) ∨ (x0 = 0 ∧ x1 = 4) ∨ (x0 = 0 ∧ x1 = 5) ∨ (x0 = 1 ∧ x1 = 2) ∨ (x0 = 1 ∧ x1 = 3) ∨ (x0 = 1 ∧ x1 = 4) ∨ (x0 = 1 ∧ x1 = 5) ∨ (x0 = 2 ∧ x1 = 3) ∨ (x0 = 2 ∧ x1 = 4) ∨ (x0 = 2 ∧ x1 = 5) ∨ (x0 = 3 ∧ x1 = 4) ∨ (x0 = 3 ∧ x1 = 5) ∨ (x0 = 4 ∧ x1 = 5)
theorem own_S2_0 {x0 x1 : Int32} (h : own_S2 x0 x1) : own_r6 x0 := by
  unfold own_S2 at h; unfold own_r6; rcases h with ⟨rfl, rfl⟩ | ⟨rfl, rfl⟩ | ⟨rfl, rfl⟩ | ⟨rfl, rfl⟩ | ⟨rfl, rfl⟩ | ⟨rfl, rfl⟩ | ⟨rfl, rfl⟩ | ⟨rfl, rfl⟩ | ⟨rfl, rfl⟩ | ⟨rfl, rfl⟩ | ⟨rfl, rfl⟩ | ⟨rfl, rfl⟩ | ⟨rfl, rfl⟩ | ⟨rfl, rfl⟩ | ⟨rfl, rfl⟩ <;> decide
theorem own_S2_1 {x0 x1 : Int32} (h : own_S2 x0 x1) : own_r6 x1 := by
  unfold own_S2 at h; unfold own_r6; rcases h with ⟨rfl, rfl⟩ | ⟨rfl, rfl⟩ | ⟨rfl, rfl⟩ | ⟨rfl, rfl⟩ | ⟨rfl, rfl⟩ | ⟨rfl, rfl⟩ | ⟨rfl, rfl⟩ | ⟨rfl, rfl⟩ | ⟨rfl, rfl⟩ | ⟨rfl, rfl⟩ | ⟨rfl, rfl⟩ | ⟨rfl, rfl⟩ | ⟨rfl, rfl⟩ | ⟨rfl, rfl⟩ | ⟨rfl, rfl⟩ <;> decide
def own_S3 (x0 x1 x2 : Int32) : Prop := (x0 = 0 ∧ x1 = 1 ∧ x2 = 2) ∨ (x0 = 0 ∧ x1 = 1 ∧ x2 = 3) ∨ (x0 = 0 ∧ x1 = 1 ∧ x2 = 4) ∨ (x0 = 0 ∧ x1 = 1 ∧ x2 = 5) ∨ (x0 = 0 ∧ x1 = 2 ∧ x2 = 3) ∨ (x0 = 0 ∧ x1 = 2 ∧ x2 = 4) ∨ (x0 = 0 ∧ x1 = 2 ∧ x2 = 5) ∨ (x0 = 0 ∧ x1 = 3 ∧ x2 = 4) ∨ (x0 = 0 ∧ x1 = 3 ∧ x2 = 5) ∨ (x0 = 0 ∧ x1 = 4 ∧ x2 = 5) ∨ (x0 = 1 ∧ x1 = 2 ∧ x2 = 3) ∨ (x0 = 1 ∧ x1 = 2 ∧ x2 = 4) ∨ (x0 = 1 ∧ x1 = 2 ∧ x2 = 5) ∨ (x0 = 1 ∧ x1 = 3 ∧ x2 = 4) ∨ (x0 = 1 ∧ x1 = 3 ∧ x2 = 5) ∨ (x0 = 1 ∧ x1 = 4 ∧ x2 = 5) ∨ (x0 = 2 ∧ x1 = 3 ∧ x2 = 4) ∨ (x0 = 2 ∧ x1 = 3 ∧ x2 = 5) ∨ (x0 = 2 ∧ x1 = 4 ∧ x2 = 5) ∨ (x0 = 3 ∧ x1 = 4 ∧ x2 = 5)
theorem own_S3_0 {x0 x1 x2 : Int32} (h : own_S3 x0 x1 x2) : own_r6 x0 := by
  unfold own_S3 at h; unfold own_r6; rcases h with ⟨rfl, rfl, rfl⟩ | ⟨rfl, rfl, rfl⟩ | ⟨rfl, rfl, rfl⟩ | ⟨rfl, rfl, rfl⟩ | ⟨rfl, rfl, rfl⟩ | ⟨rfl, rfl, rfl⟩ | ⟨rfl, rfl, rfl⟩ | ⟨rfl, rfl, rfl⟩ | ⟨rfl, rfl, rfl⟩ | ⟨rfl, rfl, rfl⟩ | ⟨rfl, rfl, rfl⟩ | ⟨rfl, rfl, rfl⟩ | ⟨rfl, rfl, rfl⟩ | ⟨rfl, rfl, rfl⟩ | ⟨rfl, rfl, rfl⟩ | ⟨rfl, rfl, rfl⟩ | ⟨rfl, rfl, rfl⟩ | ⟨rfl, rfl, rfl⟩ | ⟨rfl, rfl, rfl⟩ | ⟨rfl, rfl, rfl⟩ <;> decide
theorem own_S3_1 {x0 x1 x2 : Int32} (h : own_S3 x0 x1 x2) : own_r6 x1 := by
  unfold own_S3 at h; unfold own_r6; rcases h with ⟨rfl, rfl, rfl⟩ | ⟨rfl, rfl, rfl⟩ | ⟨rfl, rfl, rfl⟩ | ⟨rfl, rfl, rfl⟩ | ⟨rfl, rfl, rfl⟩ | ⟨rfl, rfl, rfl⟩ | ⟨rfl, rfl, rfl⟩ | ⟨rfl, rfl, rfl⟩ | ⟨rfl, rfl, rfl⟩ | ⟨rfl, rfl, rfl⟩ | ⟨rfl, rfl, rfl⟩ | ⟨rfl, rfl, rfl⟩ | ⟨rfl, rfl, rfl⟩ | ⟨rfl, rfl, rfl⟩ | ⟨rfl, rfl, rfl⟩ | ⟨rfl, rfl, rfl⟩ | ⟨rfl, rfl, rfl⟩ | ⟨rfl, rfl, rfl⟩ | ⟨rfl, rfl, rfl⟩ | ⟨rfl, rfl, rfl⟩ <;> decide
theorem own_S3_2 {x0 x1 x2 : Int32} (h : own_S3 x0 x1 x2) : own_r6 x2 := by
  unfold own_S3 at h; unfold own_r6; rcases h with ⟨rfl, rfl, rfl⟩ | ⟨rfl, rfl, rfl⟩ | ⟨rfl, rfl, rfl⟩ | ⟨rfl, rfl, rfl⟩ | ⟨rfl, rfl, rfl⟩ | ⟨rfl, rfl, rfl⟩ | ⟨rfl, rfl, rfl⟩ | ⟨rfl, rfl, rfl⟩ | ⟨rfl, rfl, rfl⟩ | ⟨rfl, rfl, rfl⟩ | ⟨rfl, rfl, rfl⟩ | ⟨rfl, rfl, rfl⟩ | ⟨rfl, rfl, rfl⟩ | ⟨rfl, rfl, rfl⟩ | ⟨rfl, rfl, rfl⟩ | ⟨rfl, rfl, rfl⟩ | ⟨rfl, rfl, rfl⟩ | ⟨rfl, rfl, rfl⟩ | ⟨rfl, rfl, rfl⟩ | ⟨rfl, rfl, rfl⟩ <;> decide
def own_S4 (x0 x1 x2 x3 : Int32) : Prop := (x0 = 0 ∧ x1 = 1 ∧ x2 = 2 ∧ x3 = 3) ∨ (x0 = 0 ∧ x1 = 1 ∧ x2 = 2 ∧ x3 = 4) ∨ (x0 = 0 ∧ x1 = 1 ∧ x2 = 2 ∧ x3 = 5) ∨ (x0 = 0 ∧ x1 = 1 ∧ x2 = 3 ∧ x3 = 4) ∨ (x0 = 0 ∧ x1 = 1 ∧ x2 = 3 ∧ x3 = 5) ∨ (x0 = 0 ∧ x1 = 1 ∧ x2 = 4 ∧ x3 = 5) ∨ (x0 = 0 ∧ x1 = 2 ∧ x2 = 3 ∧ x3 = 4) ∨ (x0 = 0 ∧ x1 = 2 ∧ x2 = 3 ∧ x3 = 5) ∨ (x0 = 0 ∧ x1 = 2 ∧ x2 = 4 ∧ x3 = 5) ∨ (x0 = 0 ∧ x1 = 3 ∧ x2 = 4 ∧ x3 = 5) ∨ (x0 = 1 ∧ x1 = 2 ∧ x2 = 3 ∧ x3 = 4) ∨ (x0 = 1 ∧ x1 = 2 ∧ x2 = 3 ∧ x3 = 5) ∨ (x0 = 1 ∧ x1 = 2 ∧ x2 = 4 ∧ x3 = 5) ∨ (x0 = 1 ∧ x1 = 3 ∧ x2 = 4 ∧ x3 = 5) ∨ (x0 = 2 ∧ x1 = 3 ∧ x2 = 4 ∧ x3 = 5)
theorem own_S4_0 {x0 x1 x2 x3 : Int32} (h : own_S4 x0 x1 x2 x3) : own_r6 x0 := by
  unfold own_S4 at h; unfold own_r6; rcases h with ⟨rfl, rfl, rfl, rfl⟩ | ⟨rfl, rfl, rfl, rfl⟩ | ⟨rfl, rfl, rfl, rfl⟩ | ⟨rfl, rfl, rfl, rfl⟩ | ⟨rfl, rfl, rfl, rfl⟩ | ⟨rfl, rfl, rfl, rfl⟩ | ⟨rfl, rfl, rfl, rfl⟩ | ⟨rfl, rfl, rfl, rfl⟩ | ⟨rfl, rfl, rfl, rfl⟩ | ⟨rfl, rfl, rfl, rfl⟩ | ⟨rfl, rfl, rfl, rfl⟩ | ⟨rfl, rfl, rfl, rfl⟩ | ⟨rfl, rfl, rfl, rfl⟩ | ⟨rfl, rfl, rfl, rfl⟩ | ⟨rfl, rfl, rfl, rfl⟩ <;> decide
theorem own_S4_1 {x0 x1 x2 x3 : Int32} (h : own_S4 x0 x1 x2 x3) : own_r6 x1 := by
  unfold own_S4 at h; unfold own_r6; rcases h with ⟨rfl, rfl, rfl, rfl⟩ | ⟨rfl, rfl, rfl, rfl⟩ | ⟨rfl, rfl, rfl, rfl⟩ | ⟨rfl, rfl, rfl, rfl⟩ | ⟨rfl, rfl, rfl, rfl⟩ | ⟨rfl, rfl, rfl, rfl⟩ | ⟨rfl, rfl, rfl, rfl⟩ | ⟨rfl, rfl, rfl, rfl⟩ | ⟨rfl, rfl, rfl, rfl⟩ | ⟨rfl, rfl, rfl, rfl⟩ | ⟨rfl, rfl, rfl, rfl⟩ | ⟨rfl, rfl, rfl, rfl⟩ | ⟨rfl, rfl, rfl, rfl⟩ | ⟨rfl, rfl, rfl, rfl⟩ | ⟨rfl, rfl, rfl, rfl⟩ <;> decide
theorem own_S4_2 {x0 x1 x2 x3 : Int32} (h : own_S4 x0 x1 x2 x3) : own_r6 x2 := by
  unfold own_S4 at h; unfold own_r6; rcases h with ⟨rfl, rfl, rfl, rfl⟩ | ⟨rfl, rfl, rfl, rfl⟩ | ⟨rfl, rfl, rfl, rfl⟩ | ⟨rfl, rfl, rfl, rfl⟩ | ⟨rfl, rfl, rfl, rfl⟩ | ⟨rfl, rfl, rfl, rfl⟩ | ⟨rfl, rfl, rfl, rfl⟩ | ⟨rfl, rfl, rfl, rfl⟩ | ⟨rfl, rfl, rfl, rfl⟩ | ⟨rfl, rfl, rfl, rfl⟩ | ⟨rfl, rfl, rfl, rfl⟩ | ⟨rfl, rfl, rfl, rfl⟩ | ⟨rfl, rfl, rfl, rfl⟩ | ⟨rfl, rfl, rfl, rfl⟩ | ⟨rfl, rfl, rfl, rfl⟩ <;> decide
theorem own_S4_3 {x0 x1 x2 x3 : Int32} (h : own_S4 x0 x1 x2 x3) : own_r6 x3 := by
  unfold own_S4 at h; unfold own_r6; rcases h with ⟨rfl, rfl, rfl, rfl⟩ | ⟨rfl, rfl, rfl, rfl⟩ | ⟨rfl, rfl, rfl, rfl⟩ | ⟨rfl, rfl, rfl, rfl⟩ | ⟨rfl, rfl, rfl, rfl⟩ | ⟨rfl, rfl, rfl, rfl⟩ | ⟨rfl, rfl, rfl, rfl⟩ | ⟨rfl, rfl, rfl, rfl⟩ | ⟨rfl, rfl, rfl, rfl⟩ | ⟨rfl, rfl, rfl, rfl⟩ | ⟨rfl, rfl, rfl, rfl⟩ | ⟨rfl, rfl, rfl, rfl⟩ | ⟨rfl, rfl, rfl, rfl⟩ | ⟨rfl, rfl, rfl, rfl⟩ | ⟨rfl, rfl, rfl, rfl⟩ <;> decide
def own_S5 (x0 x1 x2 x3 x4 : Int32) : Prop := (x0 = 0 ∧ x1 = 1 ∧ x2 = 2 ∧ x3 = 3 ∧ x4 = 4) ∨ (x0 = 0 ∧ x1 = 1 ∧ x2 = 2 ∧ x3 = 3 ∧ x4 = 5) ∨ (x0 = 0 ∧ x1 = 1 ∧ x2 = 2 ∧ x3 = 4 ∧ x4 = 5) ∨ (x0 = 0 ∧ x1 = 1 ∧ x2 = 3 ∧ x3 = 4 ∧ x4 = 5) ∨ (x0 = 0 ∧ x1 = 2 ∧ x2 = 3 ∧ x3 = 4 ∧ x4 = 5) ∨ (x0 = 1 ∧ x1 = 2 ∧ x2 = 3 ∧ x3 = 4 ∧ x4 = 5)
theorem own_S5_0 {x0 x1 x2 x3 x4 : Int32} (h : own_S5 x0 x1 x2 x3 x4) : own_r6 x0 := by
  unfold own_S5 at h; unfold own_r6; rcases h with ⟨rfl, rfl, rfl, rfl, rfl⟩ | ⟨rfl, rfl, rfl, rfl, rfl⟩ | ⟨rfl, rfl, rfl, rfl, rfl⟩ | ⟨rfl, rfl, rfl, rfl, rfl⟩ | ⟨rfl, rfl, rfl, rfl, rfl⟩ | ⟨rfl, rfl, rfl, rfl, rfl⟩ <;> decide
theorem own_S5_1 {x0 x1 x2 x3 x4 : Int32} (h : own_S5 x0 x1 x2 x3 x4) : own_r6 x1 := by
  unfold own_S5 at h; unfold own_r6; rcases h with ⟨rfl, rfl, rfl, rfl, rfl⟩ | ⟨rfl, rfl, rfl, rfl, rfl⟩ | ⟨rfl, rfl, rfl, rfl, rfl⟩ | ⟨rfl, rfl, rfl, rfl, rfl⟩ | ⟨rfl, rfl, rfl, rfl, rfl⟩ | ⟨rfl, rfl, rfl, rfl, rfl⟩ <;> decide
theorem own_S5_2 {x0 x1 x2 x3 x4 : Int32} (h : own_S5 x0 x1 x2 x3 x4) : own_r6 x2 := by
  unfold own_S5 at h; unfold own_r6; rcases h with ⟨rfl, rfl, rfl, rfl, rfl⟩ | ⟨rfl, rfl, rfl, rfl, rfl⟩ | ⟨rfl, rfl, rfl, rfl, rfl⟩ | ⟨rfl, rfl, rfl, rfl, rfl⟩ | ⟨rfl, rfl, rfl, rfl, rfl⟩ | ⟨rfl, rfl, rfl, rfl, rfl⟩ <;> decide
theorem own_S5_3 {x0 x1 x2 x3 x4 : Int32} (h : own_S5 x0 x1 x2 x3 x4) : own_r6 x3 := by
  unfold own_S5 at h; unfold own_r6; rcases h with ⟨rfl, rfl, rfl, rfl, rfl⟩ | ⟨rfl, rfl, rfl, rfl, rfl⟩ | ⟨rfl, rfl, rfl, rfl, rfl⟩ | ⟨rfl, rfl, rfl, rfl, rfl⟩ | ⟨rfl, rfl, rfl, rfl, rfl⟩ | ⟨rfl, rfl, rfl, rfl, rfl⟩ <;> decide
theorem own_S5_4 {x0 x1 x2 x3 x4 : Int32} (h : own_S5 x0 x1 x2 x3 x4) : own_r6 x4 := by
  unfold own_S5 at h; unfold own_r6; rcases h with ⟨rfl, rfl, rfl, rfl, rfl⟩ | ⟨rfl, rfl, rfl, rfl, rfl⟩ | ⟨rfl, rfl, rfl, rfl, rfl⟩ | ⟨rfl, rfl, rfl, rfl, rfl⟩ | ⟨rfl, rfl, rfl, rfl, rfl⟩ | ⟨rfl, rfl, rfl, rfl, rfl⟩ <;> decide
def own_S6 (x0 x1 x2 x3 x4 x5 : Int32) : Prop := (x0 = 0 ∧ x1 = 1 ∧ x2 = 2 ∧ x3 = 3 ∧ x4 = 4 ∧ x5 = 5)
theorem own_S6_0 {x0 x1 x2 x3 x4 x5 : Int32} (h : own_S6 x0 x1 x2 x3 x4 x5) : own_r6 x0 := by
  unfold own_S6 at h; unfold own_r6; rcases h with ⟨rfl, rfl, rfl, rfl, rfl, rfl⟩ <;> decide
theorem own_S6_1 {x0 x1 x2 x3 x4 x5 : Int32} (h : own_S6 x0 x1 x2 x3 x4 x5) : own_r6 x1 := by
  unfold own_S6 at h; unfold own_r6; rcases h with ⟨rfl, rfl, rfl, rfl, rfl, rfl⟩ <;> decide
theorem own_S6_2 {x0 x1 x2 x3 x4 x5 : Int32} (h : own_S6 x0 x1 x2 x3 x4 x5) : own_r6 x2 := by
  unfold own_S6 at h; unfold own_r6; rcases h with ⟨rfl, rfl, rfl, rfl, rfl, rfl⟩ <;> decide
theorem own_S6_3 {x0 x1 x2 x3 x4 x5 : Int32} (h : own_S6 x0 x1 x2 x3 x4 x5) : own_r6 x3 := by
  unfold own_S6 at h; unfold own_r6; rcases h with ⟨rfl, rfl, rfl, rfl, rfl, rfl⟩ <;> decide
theorem own_S6_4 {x0 x1 x2 x3 x4 x5 : Int32} (h : own_S6 x0 x1 x2 x3 x4 x5) : own_r6 x4 := by
  unfold own_S6 at h; unfold own_r6; rcases h with ⟨rfl, rfl, rfl, rfl, rfl, rfl⟩ <;> decide
theorem own_S6_5 {x0 x1 x2 x3 x4 x5 : Int32} (h : own_S6 x0 x1 x2 x3 x4 x5) : own_r6 x5 := by
  unfold own_S6 at h; unfold own_r6; rcases h with ⟨rfl, rfl, rfl, rfl, rfl, rfl⟩ <;> decide
theorem own_pn0 : plainName "com/example/tourloom/tourloom/GeneticOperatorsShiftRoundPinLaw" = true := by first | (simp [plainName, overriddenIn]; done) | decide +kernel
theorem own_ef1_k1 (m : MethodId) (a1 : Addr) : entryFrame m #[.ref a1, .int (1 : Int32)] 2 = mkF m 0 #[.val (.ref a1), .val (.int (1 : Int32))] [] := by first | (simp [entryFrame, mkF, argsToLocals, Value.category]; done) | rfl
theorem own_d1_0 : decode method_3_code 0 = .ok (.iload_n 1, 1) := by decide +kernel
theorem own_d1_1 : decode method_3_code 1 = .ok (.iconst 1, 1) := by decide +kernel
theorem own_d1_2 : decode method_3_code 2 = .ok (.if_icmp .ne 13, 3) := by decide +kernel
theorem own_d1_5 : decode method_3_code 5 = .ok (.iconst 1, 1) := by decide +kernel
theorem own_d1_6 : decode method_3_code 6 = .ok (.newarray .int, 2) := by decide +kernel
theorem own_d1_8 : decode method_3_code 8 = .ok (.dup, 1) := by decide +kernel
theorem own_d1_9 : decode method_3_code 9 = .ok (.iconst 0, 1) := by decide +kernel
theorem own_d1_10 : decode method_3_code 10 = .ok (.aload_n 0, 1) := by decide +kernel
theorem own_d1_11 : decode method_3_code 11 = .ok (.iconst 0, 1) := by decide +kernel
theorem own_d1_12 : decode method_3_code 12 = .ok (.iaload, 1) := by decide +kernel
theorem own_d1_13 : decode method_3_code 13 = .ok (.iastore, 1) := by decide +kernel
theorem own_d1_14 : decode method_3_code 14 = .ok (.areturn, 1) := by decide +kernel
def own_Q1_1 (Z : State) (a1 : Addr) (x0 : Int32) (h0 : Heap) (n0 : Nat) (v : Option Value) (h : Heap) (L : List Loc) : Prop := ∃ ra0 : Addr, v = some (.ref ra0) ∧ Fr n0 L ∧ Keep h0 h [] ∧ h0.size ≤ ra0 ∧ own_A Z h ra0 .int [.int x0]
set_option maxRecDepth 65536 in
set_option maxHeartbeats 40000000 in
theorem rm1_1 (l : Launch) (Z : State) (a0 : Array Value) (hw : ∀ d ∈ tables_1, d.before a0 Z = true) (ws : List Jvm.Cond) (a1 : Addr) (x0 : Int32) (h0 : Heap) (n0 : Nat) (Z0 : n0 ≤ h0.size) (V0p : own_A Z h0 a1 .int [.int x0, .int (0 : Int32), .int (0 : Int32), .int (0 : Int32), .int (0 : Int32), .int (0 : Int32)]) :
    MetFree l (⟨"com/example/tourloom/tourloom/GeneticOperatorsShiftRoundPinLaw", "pick", "([II)[I"⟩ : MethodName) (head1 (Jvm.Cond.code (⟨"com/example/tourloom/tourloom/GeneticOperatorsShiftRoundPinLaw", "pick", "([II)[I"⟩ : MethodName) method_3_code 2 (some (.array .int)) :: ws) ({ frames := 0, cells := 1, slots := 1, locals := 0 } : Room)) (fun a U => a = #[.ref a1, .int (1 : Int32)] ∧ Z.Warmed39 U.vm ∧ U.heap = h0) (fun _ _ _ _ _ => True) (fun _ U o U' => ∃ v L, o = .returned v ∧ own_Q1_1 Z a1 x0 h0 n0 v U'.heap L ∧ FrameEnd U o U' L ({ frames := 0, cells := 1, slots := 1, locals := 0 } : Room).cells ({ frames := 0, cells := 1, slots := 1, locals := 0 } : Room).slots) := by
  refine MetFree.of_bodySF (plainFor_of_name own_pn0) hisR ?_
  intro p e s m args below meth c s₁ Bd hml0 hP hK
  obtain ⟨rfl, hZ, hh⟩ := hP
  have hx := Bd.exec
  have hby := Bd.bytes
  have hml : c.maxLocals = 2 := hml0
  have hown : s.vm.findClass "com/example/tourloom/tourloom/GeneticOperatorsShiftRoundPinLaw" = some m.cls := findClass_of_methodNamed Bd.named
  have hnm := (name_of_methodNamed Bd.named Bd.method).1
  have hlk : meth.locks = false := BodyLoose.notSynchronized Bd
  have X0 : Stand p l e ({ frames := 0, cells := 1, slots := 1, locals := 0 } : Room) s m #[.ref a1, .int (1 : Int32)] below meth c s₁ [] 0 0 := Stand.of_body Bd
  have e0 : s₁.heap = h0 := by rw [← hh, Bd.state]; rfl
  have N0 := Fr.nil n0
  have K0 := Keep.refl h0 []
  show own_Go p e below (own_E s 1 1 (own_Q1_1 Z a1 x0 h0 n0)) (s₁.setTop (entryFrame m #[.ref a1, .int (1 : Int32)] 2))
  rw [own_ef1_k1]
  refine own_iloadN X0 hx (hb hby own_d1_0) (q := 1) rfl rfl ?_
  refine own_iconst X0 hx (v := (1 : Int32)) (hb hby own_d1_1) (q := 2) rfl rfl ?_
  refine own_icmpM X0 hx (hb hby own_d1_2) (cd := .ne) (x := (1 : Int32)) (y := (1 : Int32)) (pt := 15) (q := 5) (by decide) (by decide) rfl rfl (fun h => False.elim (h ((by decide) : (1 : Int32) = (1 : Int32)))) (fun _ => ?_)
  refine own_iconst X0 hx (v := (1 : Int32)) (hb hby own_d1_5) (q := 6) rfl rfl ?_
  refine own_newA X0 hx hZ (aty := .int) (ty := .int) (k := 1) (cap := 1) rfl (hw _ (List.mem_of_getElem? (i := 1) rfl)) e0 (by decide) (by decide) (by decide) (by decide) (by decide) (by decide) (hb hby own_d1_6) (q := 8) rfl (fun T1 h4 a5 X2 e3 g6 E7 A8 => ?_)
  have O9 : h0.size ≤ a5 := by rw [g6]; exact K0.1
  have V10 := V0p.ext E7
  have K11 := K0.ext E7
  have ne12 : a1 ≠ a5 := by rw [g6]; exact Nat.ne_of_lt V0p.lt
  have Z13 : n0 ≤ a5 := by rw [g6]; exact Z0
  have Z14 : n0 ≤ h4.size := Nat.le_trans Z0 E7.1
  replace A8 : own_A Z h4 a5 .int [.int (0 : Int32)] := A8
  refine own_dup X2 hx (hb hby own_d1_8) (q := 9) rfl rfl ?_
  refine own_iconst X2 hx (v := (0 : Int32)) (hb hby own_d1_9) (q := 10) rfl rfl ?_
  refine own_aloadN X2 hx (hb hby own_d1_10) (q := 11) rfl rfl rfl ?_
  refine own_iconst X2 hx (v := (0 : Int32)) (hb hby own_d1_11) (q := 12) rfl rfl ?_
  refine own_iaload X2 hx hZ (i := 0) (v := .int x0) e3 V10 (by decide) (by decide) rfl (hb hby own_d1_12) (q := 13) rfl ?_
  refine own_iastore X2 hx hZ (i := 0) e3 A8 (by decide) (by decide) (Nat.le_of_ble_eq_true rfl) (hb hby own_d1_13) (q := 14) rfl (fun T15 h18 X16 e17 W19 A20 => ?_)
  replace A20 : own_A Z h18 a5 .int [.int x0] := A20
  have V21 := V10.other W19 ne12
  have K22 := K11.wr W19 (Or.inr O9)
  have Z23 : n0 ≤ h18.size := W19.size ▸ Z14
  have N24 := Fr.snoc X16 N0 Z13
  refine own_retA X16 hx hlk rfl rfl rfl Bd.returns (hb hby own_d1_14) ?_ (by decide) (by decide)
  show own_Q1_1 Z a1 x0 h0 n0 _ T15.heap _
  rw [e17]
  exact ⟨a5, rfl, N24, K22, O9, A20⟩
def own_v1_1 (x0 t0 t1 t2 t3 t4 t5 : Int32) : Int32 := own_cat6 t0 t1 t2 t3 t4 t5 x0
def own_v1_2 (x0 t0 t1 t2 t3 t4 t5 : Int32) : Int32 := own_up x0 0 (own_v1_1 x0 t0 t1 t2 t3 t4 t5) t0
def own_v1_3 (x0 t0 t1 t2 t3 t4 t5 : Int32) : Int32 := own_up x0 1 (own_v1_1 x0 t0 t1 t2 t3 t4 t5) t1
def own_v1_4 (x0 t0 t1 t2 t3 t4 t5 : Int32) : Int32 := own_up x0 2 (own_v1_1 x0 t0 t1 t2 t3 t4 t5) t2
def own_v1_5 (x0 t0 t1 t2 t3 t4 t5 : Int32) : Int32 := own_up x0 3 (own_v1_1 x0 t0 t1 t2 t3 t4 t5) t3
def own_v1_6 (x0 t0 t1 t2 t3 t4 t5 : Int32) : Int32 := own_up x0 4 (own_v1_1 x0 t0 t1 t2 t3 t4 t5) t4
def own_v1_7 (x0 t0 t1 t2 t3 t4 t5 : Int32) : Int32 := own_up x0 5 (own_v1_1 x0 t0 t1 t2 t3 t4 t5) t5
def own_v1_8 (x0 t0 t1 t2 t3 t4 t5 : Int32) : Int32 := own_cat6 t0 t1 t2 t3 t4 t5 x0
def own_v1_9 (x0 t0 t1 t2 t3 t4 t5 : Int32) : Int32 := own_up x0 0 (own_v1_8 x0 t0 t1 t2 t3 t4 t5) t0
def own_v1_10 (x0 t0 t1 t2 t3 t4 t5 : Int32) : Int32 := own_up x0 1 (own_v1_8 x0 t0 t1 t2 t3 t4 t5) t1
def own_v1_11 (x0 t0 t1 t2 t3 t4 t5 : Int32) : Int32 := own_up x0 2 (own_v1_8 x0 t0 t1 t2 t3 t4 t5) t2
def own_v1_12 (x0 t0 t1 t2 t3 t4 t5 : Int32) : Int32 := own_up x0 3 (own_v1_8 x0 t0 t1 t2 t3 t4 t5) t3
def own_v1_13 (x0 t0 t1 t2 t3 t4 t5 : Int32) : Int32 := own_up x0 4 (own_v1_8 x0 t0 t1 t2 t3 t4 t5) t4
def own_v1_14 (x0 t0 t1 t2 t3 t4 t5 : Int32) : Int32 := own_up x0 5 (own_v1_8 x0 t0 t1 t2 t3 t4 t5) t5
theorem own_pn2 : plainName "com/example/tourloom/tourloom/GeneticOperators" = true := by first | (simp [plainName, overriddenIn]; done) | decide +kernel
theorem own_ef2 (m : MethodId) (a1 : Addr) (a2 : Addr) : entryFrame m #[.ref a1, .ref a2] 4 = mkF m 0 #[.val (.ref a1), .val (.ref a2), .unset, .unset] [] := by first | (simp [entryFrame, mkF, argsToLocals, Value.category]; done) | rfl
theorem own_d2_0 : decode prog_15_method_6_code 0 = .ok (.aload_n 0, 1) := by decide +kernel
theorem own_d2_1 : decode prog_15_method_6_code 1 = .ok (.aload_n 1, 1) := by decide +kernel
theorem own_d2_2 : decode prog_15_method_6_code 2 = .ok (.aload_n 1, 1) := by decide +kernel
theorem own_d2_3 : decode prog_15_method_6_code 3 = .ok (.arraylength, 1) := by decide +kernel
theorem own_d2_4 : decode prog_15_method_6_code 4 = .ok (.iconst 1, 1) := by decide +kernel
theorem own_d2_5 : decode prog_15_method_6_code 5 = .ok (.isub, 1) := by decide +kernel
theorem own_d2_6 : decode prog_15_method_6_code 6 = .ok (.iaload, 1) := by decide +kernel
theorem own_d2_7 : decode prog_15_method_6_code 7 = .ok (.iaload, 1) := by decide +kernel
theorem own_d2_8 : decode prog_15_method_6_code 8 = .ok (.istore_n 2, 1) := by decide +kernel
theorem own_d2_9 : decode prog_15_method_6_code 9 = .ok (.aload_n 1, 1) := by decide +kernel
theorem own_d2_10 : decode prog_15_method_6_code 10 = .ok (.arraylength, 1) := by decide +kernel
theorem own_d2_11 : decode prog_15_method_6_code 11 = .ok (.iconst 1, 1) := by decide +kernel
theorem own_d2_12 : decode prog_15_method_6_code 12 = .ok (.isub, 1) := by decide +kernel
theorem own_d2_13 : decode prog_15_method_6_code 13 = .ok (.istore_n 3, 1) := by decide +kernel
theorem own_d2_14 : decode prog_15_method_6_code 14 = .ok (.iload_n 3, 1) := by decide +kernel
theorem own_d2_15 : decode prog_15_method_6_code 15 = .ok (.ifCond .le 21, 3) := by decide +kernel
theorem own_d2_36 : decode prog_15_method_6_code 36 = .ok (.aload_n 0, 1) := by decide +kernel
theorem own_d2_37 : decode prog_15_method_6_code 37 = .ok (.aload_n 1, 1) := by decide +kernel
theorem own_d2_38 : decode prog_15_method_6_code 38 = .ok (.iconst 0, 1) := by decide +kernel
theorem own_d2_39 : decode prog_15_method_6_code 39 = .ok (.iaload, 1) := by decide +kernel
theorem own_d2_40 : decode prog_15_method_6_code 40 = .ok (.iload_n 2, 1) := by decide +kernel
theorem own_d2_41 : decode prog_15_method_6_code 41 = .ok (.iastore, 1) := by decide +kernel
theorem own_d2_42 : decode prog_15_method_6_code 42 = .ok (.return_, 1) := by decide +kernel
def own_Q2_1 (Z : State) (a1 : Addr) (a2 : Addr) (t0 : Int32) (t1 : Int32) (t2 : Int32) (t3 : Int32) (t4 : Int32) (t5 : Int32) (x0 : Int32) (h0 : Heap) (n0 : Nat) (v : Option Value) (h : Heap) (L : List Loc) : Prop := v = none ∧ Fr n0 L ∧ Keep h0 h [a1] ∧ own_A Z h a1 .int [.int (own_v1_2 x0 t0 t1 t2 t3 t4 t5), .int (own_v1_3 x0 t0 t1 t2 t3 t4 t5), .int (own_v1_4 x0 t0 t1 t2 t3 t4 t5), .int (own_v1_5 x0 t0 t1 t2 t3 t4 t5), .int (own_v1_6 x0 t0 t1 t2 t3 t4 t5), .int (own_v1_7 x0 t0 t1 t2 t3 t4 t5)] ∧ own_A Z h a2 .int [.int x0]
set_option maxRecDepth 65536 in
set_option maxHeartbeats 40000000 in
theorem rm2_1 (l : Launch) (Z : State) (a0 : Array Value) (hw : ∀ d ∈ tables_1, d.before a0 Z = true) (ws : List Jvm.Cond) (a1 : Addr) (a2 : Addr) (t0 : Int32) (t1 : Int32) (t2 : Int32) (t3 : Int32) (t4 : Int32) (t5 : Int32) (x0 : Int32) (h0 : Heap) (n0 : Nat) (V0p : own_A Z h0 a1 .int [.int t0, .int t1, .int t2, .int t3, .int t4, .int t5]) (V1p : own_A Z h0 a2 .int [.int x0]) (G_a1 : n0 ≤ a1) (ne_a2_a1 : a2 ≠ a1) (hS : own_S1 x0) :
    MetFree l (⟨"com/example/tourloom/tourloom/GeneticOperators", "shiftRound", "([I[I)V"⟩ : MethodName) (head1 (Jvm.Cond.code (⟨"com/example/tourloom/tourloom/GeneticOperators", "shiftRound", "([I[I)V"⟩ : MethodName) prog_15_method_6_code 4 none :: ws) ({ frames := 0, cells := 0, slots := 0, locals := 0 } : Room)) (fun a U => a = #[.ref a1, .ref a2] ∧ Z.Warmed39 U.vm ∧ U.heap = h0) (fun _ _ _ _ _ => True) (fun _ U o U' => ∃ v L, o = .returned v ∧ own_Q2_1 Z a1 a2 t0 t1 t2 t3 t4 t5 x0 h0 n0 v U'.heap L ∧ FrameEnd U o U' L ({ frames := 0, cells := 0, slots := 0, locals := 0 } : Room).cells ({ frames := 0, cells := 0, slots := 0, locals := 0 } : Room).slots) := by
  refine MetFree.of_bodySF (plainFor_of_name own_pn2) hisR ?_
  intro p e s m args below meth c s₁ Bd hml0 hP hK
  obtain ⟨rfl, hZ, hh⟩ := hP
  have hx := Bd.exec
  have hby := Bd.bytes
  have hml : c.maxLocals = 4 := hml0
  have hown : s.vm.findClass "com/example/tourloom/tourloom/GeneticOperators" = some m.cls := findClass_of_methodNamed Bd.named
  have hnm := (name_of_methodNamed Bd.named Bd.method).1
  have hlk : meth.locks = false := BodyLoose.notSynchronized Bd
  have X0 : Stand p l e ({ frames := 0, cells := 0, slots := 0, locals := 0 } : Room) s m #[.ref a1, .ref a2] below meth c s₁ [] 0 0 := Stand.of_body Bd
  have e0 : s₁.heap = h0 := by rw [← hh, Bd.state]; rfl
  have N0 := Fr.nil n0
  have K0 := Keep.refl h0 [a1]
  show own_Go p e below (own_E s 0 0 (own_Q2_1 Z a1 a2 t0 t1 t2 t3 t4 t5 x0 h0 n0)) (s₁.setTop (entryFrame m #[.ref a1, .ref a2] 4))
  rw [own_ef2]
  refine own_aloadN X0 hx (hb hby own_d2_0) (q := 1) rfl rfl rfl ?_
  refine own_aloadN X0 hx (hb hby own_d2_1) (q := 2) rfl rfl rfl ?_
  refine own_aloadN X0 hx (hb hby own_d2_2) (q := 3) rfl rfl rfl ?_
  refine own_alen X0 hx hZ (n := (1 : Int32)) e0 V1p rfl (hb hby own_d2_3) (q := 4) rfl ?_
  refine own_iconst X0 hx (v := (1 : Int32)) (hb hby own_d2_4) (q := 5) rfl rfl ?_
  refine own_isub X0 hx (hb hby own_d2_5) (q := 6) rfl ?_
  rw [show ((1 : Int32) - (1 : Int32) : Int32) = (0 : Int32) from by decide]
  refine own_iaload X0 hx hZ (i := 0) (v := .int x0) e0 V1p (by decide) (by decide) rfl (hb hby own_d2_6) (q := 7) rfl ?_
  refine own_iaload X0 hx hZ (i := (x0).toNatClampNeg) (v := .int (own_v1_8 x0 t0 t1 t2 t3 t4 t5)) e0 V0p (own_nn6 (own_S1_0 hS)) rfl (own_cat6V (own_S1_0 hS)) (hb hby own_d2_7) (q := 8) rfl ?_
  refine own_istoreN (L' := #[.val (.ref a1), .val (.ref a2), .val (.int (own_v1_8 x0 t0 t1 t2 t3 t4 t5)), .unset]) X0 hx (hb hby own_d2_8) (q := 9) rfl rfl ?_
  refine own_aloadN X0 hx (hb hby own_d2_9) (q := 10) rfl rfl rfl ?_
  refine own_alen X0 hx hZ (n := (1 : Int32)) e0 V1p rfl (hb hby own_d2_10) (q := 11) rfl ?_
  refine own_iconst X0 hx (v := (1 : Int32)) (hb hby own_d2_11) (q := 12) rfl rfl ?_
  refine own_isub X0 hx (hb hby own_d2_12) (q := 13) rfl ?_
  rw [show ((1 : Int32) - (1 : Int32) : Int32) = (0 : Int32) from by decide]
  refine own_istoreN (L' := #[.val (.ref a1), .val (.ref a2), .val (.int (own_v1_8 x0 t0 t1 t2 t3 t4 t5)), .val (.int (0 : Int32))]) X0 hx (hb hby own_d2_13) (q := 14) rfl rfl ?_
  refine own_iloadN X0 hx (hb hby own_d2_14) (q := 15) rfl rfl ?_
  refine own_if0M X0 hx (hb hby own_d2_15) (cd := .le) (x := (0 : Int32)) (pt := 36) (q := 18) (by decide) (by decide) rfl rfl (fun _ => ?_) (fun h => False.elim (((by decide) : ¬ ((0 : Int32) < (0 : Int32))) h))
  refine own_aloadN X0 hx (hb hby own_d2_36) (q := 37) rfl rfl rfl ?_
  refine own_aloadN X0 hx (hb hby own_d2_37) (q := 38) rfl rfl rfl ?_
  refine own_iconst X0 hx (v := (0 : Int32)) (hb hby own_d2_38) (q := 39) rfl rfl ?_
  refine own_iaload X0 hx hZ (i := 0) (v := .int x0) e0 V1p (by decide) (by decide) rfl (hb hby own_d2_39) (q := 40) rfl ?_
  refine own_iloadN X0 hx (hb hby own_d2_40) (q := 41) rfl rfl ?_
  refine own_iastore X0 hx hZ (i := (x0).toNatClampNeg) e0 V0p (own_nn6 (own_S1_0 hS)) rfl (own_lt6 (own_S1_0 hS)) (hb hby own_d2_41) (q := 42) rfl (fun T25 h28 X26 e27 W29 A30 => ?_)
  replace A30 : own_A Z h28 a1 .int [.int (own_v1_9 x0 t0 t1 t2 t3 t4 t5), .int (own_v1_10 x0 t0 t1 t2 t3 t4 t5), .int (own_v1_11 x0 t0 t1 t2 t3 t4 t5), .int (own_v1_12 x0 t0 t1 t2 t3 t4 t5), .int (own_v1_13 x0 t0 t1 t2 t3 t4 t5), .int (own_v1_14 x0 t0 t1 t2 t3 t4 t5)] := by rw [own_set6 (own_S1_0 hS)] at A30; exact A30
  have V31 := V1p.other W29 ne_a2_a1
  have K32 := K0.wr W29 (Or.inl (List.mem_of_getElem? (i := 0) rfl))
  have N33 := Fr.snoc X26 N0 G_a1
  refine own_retV X26 hx hlk (rest := []) Bd.returns (hb hby own_d2_42) ?_ (by decide) (by decide)
  show own_Q2_1 Z a1 a2 t0 t1 t2 t3 t4 t5 x0 h0 n0 _ T25.heap _
  rw [e27]
  exact ⟨rfl, N33, K32, A30, V31⟩
theorem own_ef3_k1 (m : MethodId) (a1 : Addr) (a2 : Addr) : entryFrame m #[.ref a1, .ref a2, .int (1 : Int32)] 4 = mkF m 0 #[.val (.ref a1), .val (.ref a2), .val (.int (1 : Int32)), .unset] [] := by first | (simp [entryFrame, mkF, argsToLocals, Value.category]; done) | rfl
theorem own_d3_0 : decode method_4_code 0 = .ok (.aload_n 0, 1) := by decide +kernel
theorem own_d3_1 : decode method_4_code 1 = .ok (.arraylength, 1) := by decide +kernel
theorem own_d3_2 : decode method_4_code 2 = .ok (.iload_n 2, 1) := by decide +kernel
theorem own_d3_3 : decode method_4_code 3 = .ok (.if_icmp .ne 7, 3) := by decide +kernel
theorem own_d3_6 : decode method_4_code 6 = .ok (.iconst 1, 1) := by decide +kernel
theorem own_d3_7 : decode method_4_code 7 = .ok (.goto 4, 3) := by decide +kernel
theorem own_d3_11 : decode method_4_code 11 = .ok (.istore_n 3, 1) := by decide +kernel
theorem own_d3_12 : decode method_4_code 12 = .ok (.iload_n 3, 1) := by decide +kernel
theorem own_d3_13 : decode method_4_code 13 = .ok (.ifCond .eq 23, 3) := by decide +kernel
theorem own_d3_16 : decode method_4_code 16 = .ok (.iload_n 2, 1) := by decide +kernel
theorem own_d3_17 : decode method_4_code 17 = .ok (.iconst 1, 1) := by decide +kernel
theorem own_d3_18 : decode method_4_code 18 = .ok (.if_icmp .lt 18, 3) := by decide +kernel
theorem own_d3_21 : decode method_4_code 21 = .ok (.aload_n 0, 1) := by decide +kernel
theorem own_d3_22 : decode method_4_code 22 = .ok (.iconst 0, 1) := by decide +kernel
theorem own_d3_23 : decode method_4_code 23 = .ok (.iaload, 1) := by decide +kernel
theorem own_d3_24 : decode method_4_code 24 = .ok (.aload_n 1, 1) := by decide +kernel
theorem own_d3_25 : decode method_4_code 25 = .ok (.iconst 0, 1) := by decide +kernel
theorem own_d3_26 : decode method_4_code 26 = .ok (.iaload, 1) := by decide +kernel
theorem own_d3_27 : decode method_4_code 27 = .ok (.if_icmp .ne 7, 3) := by decide +kernel
theorem own_d3_30 : decode method_4_code 30 = .ok (.iconst 1, 1) := by decide +kernel
theorem own_d3_31 : decode method_4_code 31 = .ok (.goto 4, 3) := by decide +kernel
theorem own_d3_35 : decode method_4_code 35 = .ok (.istore_n 3, 1) := by decide +kernel
theorem own_d3_36 : decode method_4_code 36 = .ok (.iload_n 3, 1) := by decide +kernel
theorem own_d3_37 : decode method_4_code 37 = .ok (.ifCond .eq 23, 3) := by decide +kernel
theorem own_d3_40 : decode method_4_code 40 = .ok (.iload_n 2, 1) := by decide +kernel
theorem own_d3_41 : decode method_4_code 41 = .ok (.iconst 2, 1) := by decide +kernel
theorem own_d3_42 : decode method_4_code 42 = .ok (.if_icmp .lt 18, 3) := by decide +kernel
theorem own_d3_60 : decode method_4_code 60 = .ok (.iload_n 3, 1) := by decide +kernel
theorem own_d3_61 : decode method_4_code 61 = .ok (.ifCond .eq 23, 3) := by decide +kernel
theorem own_d3_64 : decode method_4_code 64 = .ok (.iload_n 2, 1) := by decide +kernel
theorem own_d3_65 : decode method_4_code 65 = .ok (.iconst 3, 1) := by decide +kernel
theorem own_d3_66 : decode method_4_code 66 = .ok (.if_icmp .lt 18, 3) := by decide +kernel
theorem own_d3_84 : decode method_4_code 84 = .ok (.iload_n 3, 1) := by decide +kernel
theorem own_d3_85 : decode method_4_code 85 = .ok (.ifCond .eq 23, 3) := by decide +kernel
theorem own_d3_88 : decode method_4_code 88 = .ok (.iload_n 2, 1) := by decide +kernel
theorem own_d3_89 : decode method_4_code 89 = .ok (.iconst 4, 1) := by decide +kernel
theorem own_d3_90 : decode method_4_code 90 = .ok (.if_icmp .lt 18, 3) := by decide +kernel
theorem own_d3_108 : decode method_4_code 108 = .ok (.iload_n 3, 1) := by decide +kernel
theorem own_d3_109 : decode method_4_code 109 = .ok (.ifCond .eq 23, 3) := by decide +kernel
theorem own_d3_112 : decode method_4_code 112 = .ok (.iload_n 2, 1) := by decide +kernel
theorem own_d3_113 : decode method_4_code 113 = .ok (.iconst 5, 1) := by decide +kernel
theorem own_d3_114 : decode method_4_code 114 = .ok (.if_icmp .lt 18, 3) := by decide +kernel
theorem own_d3_132 : decode method_4_code 132 = .ok (.iload_n 3, 1) := by decide +kernel
theorem own_d3_133 : decode method_4_code 133 = .ok (.ifCond .eq 24, 3) := by decide +kernel
theorem own_d3_136 : decode method_4_code 136 = .ok (.iload_n 2, 1) := by decide +kernel
theorem own_d3_137 : decode method_4_code 137 = .ok (.bipush 6, 2) := by decide +kernel
theorem own_d3_139 : decode method_4_code 139 = .ok (.if_icmp .lt 18, 3) := by decide +kernel
theorem own_d3_157 : decode method_4_code 157 = .ok (.iload_n 3, 1) := by decide +kernel
theorem own_d3_158 : decode method_4_code 158 = .ok (.ireturn, 1) := by decide +kernel
def own_f3_1 (x0 : Int32) : Int32 := (1 : Int32)
set_option maxRecDepth 65536 in
set_option maxHeartbeats 40000000 in
theorem rm3_1 (l : Launch) (Z : State) (a0 : Array Value) (hw : ∀ d ∈ tables_1, d.before a0 Z = true) (ws : List Jvm.Cond) (a1 : Addr) (a2 : Addr) (x0 : Int32) (h0 : Heap) (V0p : own_A Z h0 a1 .int [.int x0]) (V1p : own_A Z h0 a2 .int [.int x0, .int (0 : Int32), .int (0 : Int32), .int (0 : Int32), .int (0 : Int32), .int (0 : Int32)]) :
    MetFree l (⟨"com/example/tourloom/tourloom/GeneticOperatorsShiftRoundPinLaw", "risingKept", "([I[II)Z"⟩ : MethodName) (head1 (Jvm.Cond.code (⟨"com/example/tourloom/tourloom/GeneticOperatorsShiftRoundPinLaw", "risingKept", "([I[II)Z"⟩ : MethodName) method_4_code 4 (some .boolean) :: ws) ({ frames := 0, cells := 0, slots := 0, locals := 0 } : Room)) (fun a U => a = #[.ref a1, .ref a2, .int (1 : Int32)] ∧ Z.Warmed39 U.vm ∧ U.heap = h0) (fun _ _ _ _ _ => True) (fun _ U o U' => ∃ v L, o = .returned v ∧ own_P (.int (own_f3_1 x0)) h0 v U'.heap L ∧ FrameEnd U o U' L ({ frames := 0, cells := 0, slots := 0, locals := 0 } : Room).cells ({ frames := 0, cells := 0, slots := 0, locals := 0 } : Room).slots) := by
  refine MetFree.of_bodySF (plainFor_of_name own_pn0) hisR ?_
  intro p e s m args below meth c s₁ Bd hml0 hP hK
  obtain ⟨rfl, hZ, hh⟩ := hP
  have hx := Bd.exec
  have hby := Bd.bytes
  have hml : c.maxLocals = 4 := hml0
  have hown : s.vm.findClass "com/example/tourloom/tourloom/GeneticOperatorsShiftRoundPinLaw" = some m.cls := findClass_of_methodNamed Bd.named
  have hnm := (name_of_methodNamed Bd.named Bd.method).1
  have hlk : meth.locks = false := BodyLoose.notSynchronized Bd
  have X0 : Stand p l e ({ frames := 0, cells := 0, slots := 0, locals := 0 } : Room) s m #[.ref a1, .ref a2, .int (1 : Int32)] below meth c s₁ [] 0 0 := Stand.of_body Bd
  have e0 : s₁.heap = h0 := by rw [← hh, Bd.state]; rfl
  show own_Go p e below (own_E s 0 0 (own_P (.int (own_f3_1 x0)) h0)) (s₁.setTop (entryFrame m #[.ref a1, .ref a2, .int (1 : Int32)] 4))
  rw [own_ef3_k1]
  refine own_aloadN X0 hx (hb hby own_d3_0) (q := 1) rfl rfl rfl ?_
  refine own_alen X0 hx hZ (n := (1 : Int32)) e0 V0p rfl (hb hby own_d3_1) (q := 2) rfl ?_
  refine own_iloadN X0 hx (hb hby own_d3_2) (q := 3) rfl rfl ?_
  refine own_icmpM X0 hx (hb hby own_d3_3) (cd := .ne) (x := (1 : Int32)) (y := (1 : Int32)) (pt := 10) (q := 6) (by decide) (by decide) rfl rfl (fun h => False.elim (h ((by decide) : (1 : Int32) = (1 : Int32)))) (fun _ => ?_)
  refine own_iconst X0 hx (v := (1 : Int32)) (hb hby own_d3_6) (q := 7) rfl rfl ?_
  refine own_goto X0 hx (hb hby own_d3_7) (q := 11) (by decide) (by decide) ?_
  refine own_istoreN (L' := #[.val (.ref a1), .val (.ref a2), .val (.int (1 : Int32)), .val (.int (1 : Int32))]) X0 hx (hb hby own_d3_11) (q := 12) rfl rfl ?_
  refine own_iloadN X0 hx (hb hby own_d3_12) (q := 13) rfl rfl ?_
  refine own_if0P X0 hx (hb hby own_d3_13) (cd := .eq) (x := (1 : Int32)) (pt := 36) (q := 16) (by decide) (by decide) rfl rfl (fun h => False.elim (((by decide) : ¬ ((1 : Int32) = (0 : Int32))) h)) (fun _ => ?_)
  refine own_iloadN X0 hx (hb hby own_d3_16) (q := 17) rfl rfl ?_
  refine own_iconst X0 hx (v := (1 : Int32)) (hb hby own_d3_17) (q := 18) rfl rfl ?_
  refine own_icmpP X0 hx (hb hby own_d3_18) (cd := .lt) (x := (1 : Int32)) (y := (1 : Int32)) (pt := 36) (q := 21) (by decide) (by decide) rfl rfl (fun h => False.elim (((by decide) : ¬ ((1 : Int32) < (1 : Int32))) h)) (fun _ => ?_)
  refine own_aloadN X0 hx (hb hby own_d3_21) (q := 22) rfl rfl rfl ?_
  refine own_iconst X0 hx (v := (0 : Int32)) (hb hby own_d3_22) (q := 23) rfl rfl ?_
  refine own_iaload X0 hx hZ (i := 0) (v := .int x0) e0 V0p (by decide) (by decide) rfl (hb hby own_d3_23) (q := 24) rfl ?_
  refine own_aloadN X0 hx (hb hby own_d3_24) (q := 25) rfl rfl rfl ?_
  refine own_iconst X0 hx (v := (0 : Int32)) (hb hby own_d3_25) (q := 26) rfl rfl ?_
  refine own_iaload X0 hx hZ (i := 0) (v := .int x0) e0 V1p (by decide) (by decide) rfl (hb hby own_d3_26) (q := 27) rfl ?_
  refine own_icmpM X0 hx (hb hby own_d3_27) (cd := .ne) (x := x0) (y := x0) (pt := 34) (q := 30) (by decide) (by decide) rfl rfl (fun h => False.elim (h (rfl : x0 = x0))) (fun _ => ?_)
  refine own_iconst X0 hx (v := (1 : Int32)) (hb hby own_d3_30) (q := 31) rfl rfl ?_
  refine own_goto X0 hx (hb hby own_d3_31) (q := 35) (by decide) (by decide) ?_
  refine own_istoreN (L' := #[.val (.ref a1), .val (.ref a2), .val (.int (1 : Int32)), .val (.int (1 : Int32))]) X0 hx (hb hby own_d3_35) (q := 36) rfl rfl ?_
  refine own_iloadN X0 hx (hb hby own_d3_36) (q := 37) rfl rfl ?_
  refine own_if0P X0 hx (hb hby own_d3_37) (cd := .eq) (x := (1 : Int32)) (pt := 60) (q := 40) (by decide) (by decide) rfl rfl (fun h => False.elim (((by decide) : ¬ ((1 : Int32) = (0 : Int32))) h)) (fun _ => ?_)
  refine own_iloadN X0 hx (hb hby own_d3_40) (q := 41) rfl rfl ?_
  refine own_iconst X0 hx (v := (2 : Int32)) (hb hby own_d3_41) (q := 42) rfl rfl ?_
  refine own_icmpP X0 hx (hb hby own_d3_42) (cd := .lt) (x := (1 : Int32)) (y := (2 : Int32)) (pt := 60) (q := 45) (by decide) (by decide) rfl rfl (fun _ => ?_) (fun h => False.elim (h ((by decide) : (1 : Int32) < (2 : Int32))))
  refine own_iloadN X0 hx (hb hby own_d3_60) (q := 61) rfl rfl ?_
  refine own_if0P X0 hx (hb hby own_d3_61) (cd := .eq) (x := (1 : Int32)) (pt := 84) (q := 64) (by decide) (by decide) rfl rfl (fun h => False.elim (((by decide) : ¬ ((1 : Int32) = (0 : Int32))) h)) (fun _ => ?_)
  refine own_iloadN X0 hx (hb hby own_d3_64) (q := 65) rfl rfl ?_
  refine own_iconst X0 hx (v := (3 : Int32)) (hb hby own_d3_65) (q := 66) rfl rfl ?_
  refine own_icmpP X0 hx (hb hby own_d3_66) (cd := .lt) (x := (1 : Int32)) (y := (3 : Int32)) (pt := 84) (q := 69) (by decide) (by decide) rfl rfl (fun _ => ?_) (fun h => False.elim (h ((by decide) : (1 : Int32) < (3 : Int32))))
  refine own_iloadN X0 hx (hb hby own_d3_84) (q := 85) rfl rfl ?_
  refine own_if0P X0 hx (hb hby own_d3_85) (cd := .eq) (x := (1 : Int32)) (pt := 108) (q := 88) (by decide) (by decide) rfl rfl (fun h => False.elim (((by decide) : ¬ ((1 : Int32) = (0 : Int32))) h)) (fun _ => ?_)
  refine own_iloadN X0 hx (hb hby own_d3_88) (q := 89) rfl rfl ?_
  refine own_iconst X0 hx (v := (4 : Int32)) (hb hby own_d3_89) (q := 90) rfl rfl ?_
  refine own_icmpP X0 hx (hb hby own_d3_90) (cd := .lt) (x := (1 : Int32)) (y := (4 : Int32)) (pt := 108) (q := 93) (by decide) (by decide) rfl rfl (fun _ => ?_) (fun h => False.elim (h ((by decide) : (1 : Int32) < (4 : Int32))))
  refine own_iloadN X0 hx (hb hby own_d3_108) (q := 109) rfl rfl ?_
  refine own_if0P X0 hx (hb hby own_d3_109) (cd := .eq) (x := (1 : Int32)) (pt := 132) (q := 112) (by decide) (by decide) rfl rfl (fun h => False.elim (((by decide) : ¬ ((1 : Int32) = (0 : Int32))) h)) (fun _ => ?_)
  refine own_iloadN X0 hx (hb hby own_d3_112) (q := 113) rfl rfl ?_
  refine own_iconst X0 hx (v := (5 : Int32)) (hb hby own_d3_113) (q := 114) rfl rfl ?_
  refine own_icmpP X0 hx (hb hby own_d3_114) (cd := .lt) (x := (1 : Int32)) (y := (5 : Int32)) (pt := 132) (q := 117) (by decide) (by decide) rfl rfl (fun _ => ?_) (fun h => False.elim (h ((by decide) : (1 : Int32) < (5 : Int32))))
  refine own_iloadN X0 hx (hb hby own_d3_132) (q := 133) rfl rfl ?_
  refine own_if0P X0 hx (hb hby own_d3_133) (cd := .eq) (x := (1 : Int32)) (pt := 157) (q := 136) (by decide) (by decide) rfl rfl (fun h => False.elim (((by decide) : ¬ ((1 : Int32) = (0 : Int32))) h)) (fun _ => ?_)
  refine own_iloadN X0 hx (hb hby own_d3_136) (q := 137) rfl rfl ?_
  refine own_bipush X0 hx (v := (6 : Int32)) (hb hby own_d3_137) (q := 139) rfl rfl ?_
  refine own_icmpP X0 hx (hb hby own_d3_139) (cd := .lt) (x := (1 : Int32)) (y := (6 : Int32)) (pt := 157) (q := 142) (by decide) (by decide) rfl rfl (fun _ => ?_) (fun h => False.elim (h ((by decide) : (1 : Int32) < (6 : Int32))))
  refine own_iloadN X0 hx (hb hby own_d3_157) (q := 158) rfl rfl ?_
  refine own_retN X0 hx hlk (t := .boolean) (by simp) Bd.returns (hb hby own_d3_158) ?_ (by decide) (by decide)
  have r : own_f3_1 x0 = (1 : Int32) := by rw [own_f3_1]
  exact ⟨by rw [r] <;> rfl, e0, rfl⟩
theorem own_ef1_k2 (m : MethodId) (a1 : Addr) : entryFrame m #[.ref a1, .int (2 : Int32)] 2 = mkF m 0 #[.val (.ref a1), .val (.int (2 : Int32))] [] := by first | (simp [entryFrame, mkF, argsToLocals, Value.category]; done) | rfl
theorem own_d1_15 : decode method_3_code 15 = .ok (.iload_n 1, 1) := by decide +kernel
theorem own_d1_16 : decode method_3_code 16 = .ok (.iconst 2, 1) := by decide +kernel
theorem own_d1_17 : decode method_3_code 17 = .ok (.if_icmp .ne 19, 3) := by decide +kernel
theorem own_d1_20 : decode method_3_code 20 = .ok (.iconst 2, 1) := by decide +kernel
theorem own_d1_21 : decode method_3_code 21 = .ok (.newarray .int, 2) := by decide +kernel
theorem own_d1_23 : decode method_3_code 23 = .ok (.dup, 1) := by decide +kernel
theorem own_d1_24 : decode method_3_code 24 = .ok (.iconst 0, 1) := by decide +kernel
theorem own_d1_25 : decode method_3_code 25 = .ok (.aload_n 0, 1) := by decide +kernel
theorem own_d1_26 : decode method_3_code 26 = .ok (.iconst 0, 1) := by decide +kernel
theorem own_d1_27 : decode method_3_code 27 = .ok (.iaload, 1) := by decide +kernel
theorem own_d1_28 : decode method_3_code 28 = .ok (.iastore, 1) := by decide +kernel
theorem own_d1_29 : decode method_3_code 29 = .ok (.dup, 1) := by decide +kernel
theorem own_d1_30 : decode method_3_code 30 = .ok (.iconst 1, 1) := by decide +kernel
theorem own_d1_31 : decode method_3_code 31 = .ok (.aload_n 0, 1) := by decide +kernel
theorem own_d1_32 : decode method_3_code 32 = .ok (.iconst 1, 1) := by decide +kernel
theorem own_d1_33 : decode method_3_code 33 = .ok (.iaload, 1) := by decide +kernel
theorem own_d1_34 : decode method_3_code 34 = .ok (.iastore, 1) := by decide +kernel
theorem own_d1_35 : decode method_3_code 35 = .ok (.areturn, 1) := by decide +kernel
def own_Q1_2 (Z : State) (a1 : Addr) (x0 : Int32) (x1 : Int32) (h0 : Heap) (n0 : Nat) (v : Option Value) (h : Heap) (L : List Loc) : Prop := ∃ ra0 : Addr, v = some (.ref ra0) ∧ Fr n0 L ∧ Keep h0 h [] ∧ h0.size ≤ ra0 ∧ own_A Z h ra0 .int [.int x0, .int x1]
set_option maxRecDepth 65536 in
set_option maxHeartbeats 40000000 in
theorem rm1_2 (l : Launch) (Z : State) (a0 : Array Value) (hw : ∀ d ∈ tables_1, d.before a0 Z = true) (ws : List Jvm.Cond) (a1 : Addr) (x0 : Int32) (x1 : Int32) (h0 : Heap) (n0 : Nat) (Z0 : n0 ≤ h0.size) (V0p : own_A Z h0 a1 .int [.int x0, .int x1, .int (0 : Int32), .int (0 : Int32), .int (0 : Int32), .int (0 : Int32)]) :
    MetFree l (⟨"com/example/tourloom/tourloom/GeneticOperatorsShiftRoundPinLaw", "pick", "([II)[I"⟩ : MethodName) (head1 (Jvm.Cond.code (⟨"com/example/tourloom/tourloom/GeneticOperatorsShiftRoundPinLaw", "pick", "([II)[I"⟩ : MethodName) method_3_code 2 (some (.array .int)) :: ws) ({ frames := 0, cells := 1, slots := 2, locals := 0 } : Room)) (fun a U => a = #[.ref a1, .int (2 : Int32)] ∧ Z.Warmed39 U.vm ∧ U.heap = h0) (fun _ _ _ _ _ => True) (fun _ U o U' => ∃ v L, o = .returned v ∧ own_Q1_2 Z a1 x0 x1 h0 n0 v U'.heap L ∧ FrameEnd U o U' L ({ frames := 0, cells := 1, slots := 2, locals := 0 } : Room).cells ({ frames := 0, cells := 1, slots := 2, locals := 0 } : Room).slots) := by
  refine MetFree.of_bodySF (plainFor_of_name own_pn0) hisR ?_
  intro p e s m args below meth c s₁ Bd hml0 hP hK
  obtain ⟨rfl, hZ, hh⟩ := hP
  have hx := Bd.exec
  have hby := Bd.bytes
  have hml : c.maxLocals = 2 := hml0
  have hown : s.vm.findClass "com/example/tourloom/tourloom/GeneticOperatorsShiftRoundPinLaw" = some m.cls := findClass_of_methodNamed Bd.named
  have hnm := (name_of_methodNamed Bd.named Bd.method).1
  have hlk : meth.locks = false := BodyLoose.notSynchronized Bd
  have X0 : Stand p l e ({ frames := 0, cells := 1, slots := 2, locals := 0 } : Room) s m #[.ref a1, .int (2 : Int32)] below meth c s₁ [] 0 0 := Stand.of_body Bd
  have e0 : s₁.heap = h0 := by rw [← hh, Bd.state]; rfl
  have N0 := Fr.nil n0
  have K0 := Keep.refl h0 []
  show own_Go p e below (own_E s 1 2 (own_Q1_2 Z a1 x0 x1 h0 n0)) (s₁.setTop (entryFrame m #[.ref a1, .int (2 : Int32)] 2))
  rw [own_ef1_k2]
  refine own_iloadN X0 hx (hb hby own_d1_0) (q := 1) rfl rfl ?_
  refine own_iconst X0 hx (v := (1 : Int32)) (hb hby own_d1_1) (q := 2) rfl rfl ?_
  refine own_icmpM X0 hx (hb hby own_d1_2) (cd := .ne) (x := (2 : Int32)) (y := (1 : Int32)) (pt := 15) (q := 5) (by decide) (by decide) rfl rfl (fun _ => ?_) (fun h => False.elim (((by decide) : ¬ ((2 : Int32) = (1 : Int32))) h))
  refine own_iloadN X0 hx (hb hby own_d1_15) (q := 16) rfl rfl ?_
  refine own_iconst X0 hx (v := (2 : Int32)) (hb hby own_d1_16) (q := 17) rfl rfl ?_
  refine own_icmpM X0 hx (hb hby own_d1_17) (cd := .ne) (x := (2 : Int32)) (y := (2 : Int32)) (pt := 36) (q := 20) (by decide) (by decide) rfl rfl (fun h => False.elim (h ((by decide) : (2 : Int32) = (2 : Int32)))) (fun _ => ?_)
  refine own_iconst X0 hx (v := (2 : Int32)) (hb hby own_d1_20) (q := 21) rfl rfl ?_
  refine own_newA X0 hx hZ (aty := .int) (ty := .int) (k := 2) (cap := 2) rfl (hw _ (List.mem_of_getElem? (i := 1) rfl)) e0 (by decide) (by decide) (by decide) (by decide) (by decide) (by decide) (hb hby own_d1_21) (q := 23) rfl (fun T34 h37 a38 X35 e36 g39 E40 A41 => ?_)
  have O42 : h0.size ≤ a38 := by rw [g39]; exact K0.1
  have V43 := V0p.ext E40
  have K44 := K0.ext E40
  have ne45 : a1 ≠ a38 := by rw [g39]; exact Nat.ne_of_lt V0p.lt
  have Z46 : n0 ≤ a38 := by rw [g39]; exact Z0
  have Z47 : n0 ≤ h37.size := Nat.le_trans Z0 E40.1
  replace A41 : own_A Z h37 a38 .int [.int (0 : Int32), .int (0 : Int32)] := A41
  refine own_dup X35 hx (hb hby own_d1_23) (q := 24) rfl rfl ?_
  refine own_iconst X35 hx (v := (0 : Int32)) (hb hby own_d1_24) (q := 25) rfl rfl ?_
  refine own_aloadN X35 hx (hb hby own_d1_25) (q := 26) rfl rfl rfl ?_
  refine own_iconst X35 hx (v := (0 : Int32)) (hb hby own_d1_26) (q := 27) rfl rfl ?_
  refine own_iaload X35 hx hZ (i := 0) (v := .int x0) e36 V43 (by decide) (by decide) rfl (hb hby own_d1_27) (q := 28) rfl ?_
  refine own_iastore X35 hx hZ (i := 0) e36 A41 (by decide) (by decide) (Nat.le_of_ble_eq_true rfl) (hb hby own_d1_28) (q := 29) rfl (fun T48 h51 X49 e50 W52 A53 => ?_)
  replace A53 : own_A Z h51 a38 .int [.int x0, .int (0 : Int32)] := A53
  have V54 := V43.other W52 ne45
  have K55 := K44.wr W52 (Or.inr O42)
  have Z56 : n0 ≤ h51.size := W52.size ▸ Z47
  have N57 := Fr.snoc X49 N0 Z46
  refine own_dup X49 hx (hb hby own_d1_29) (q := 30) rfl rfl ?_
  refine own_iconst X49 hx (v := (1 : Int32)) (hb hby own_d1_30) (q := 31) rfl rfl ?_
  refine own_aloadN X49 hx (hb hby own_d1_31) (q := 32) rfl rfl rfl ?_
  refine own_iconst X49 hx (v := (1 : Int32)) (hb hby own_d1_32) (q := 33) rfl rfl ?_
  refine own_iaload X49 hx hZ (i := 1) (v := .int x1) e50 V54 (by decide) (by decide) rfl (hb hby own_d1_33) (q := 34) rfl ?_
  refine own_iastore X49 hx hZ (i := 1) e50 A53 (by decide) (by decide) (Nat.le_of_ble_eq_true rfl) (hb hby own_d1_34) (q := 35) rfl (fun T58 h61 X59 e60 W62 A63 => ?_)
  replace A63 : own_A Z h61 a38 .int [.int x0, .int x1] := A63
  have V64 := V54.other W62 ne45
  have K65 := K55.wr W62 (Or.inr O42)
  have Z66 : n0 ≤ h61.size := W62.size ▸ Z56
  have N67 := Fr.snoc X59 N57 Z46
  refine own_retA X59 hx hlk rfl rfl rfl Bd.returns (hb hby own_d1_35) ?_ (by decide) (by decide)
  show own_Q1_2 Z a1 x0 x1 h0 n0 _ T58.heap _
  rw [e60]
  exact ⟨a38, rfl, N67, K65, O42, A63⟩
def own_v2_15 (x0 x1 t0 t1 t2 t3 t4 t5 : Int32) : Int32 := own_cat6 t0 t1 t2 t3 t4 t5 x1
def own_v2_16 (x0 x1 t0 t1 t2 t3 t4 t5 : Int32) : Int32 := own_cat6 t0 t1 t2 t3 t4 t5 x0
def own_v2_17 (x0 x1 t0 t1 t2 t3 t4 t5 : Int32) : Int32 := own_up x1 0 (own_v2_16 x0 x1 t0 t1 t2 t3 t4 t5) t0
def own_v2_18 (x0 x1 t0 t1 t2 t3 t4 t5 : Int32) : Int32 := own_up x1 1 (own_v2_16 x0 x1 t0 t1 t2 t3 t4 t5) t1
def own_v2_19 (x0 x1 t0 t1 t2 t3 t4 t5 : Int32) : Int32 := own_up x1 2 (own_v2_16 x0 x1 t0 t1 t2 t3 t4 t5) t2
def own_v2_20 (x0 x1 t0 t1 t2 t3 t4 t5 : Int32) : Int32 := own_up x1 3 (own_v2_16 x0 x1 t0 t1 t2 t3 t4 t5) t3
def own_v2_21 (x0 x1 t0 t1 t2 t3 t4 t5 : Int32) : Int32 := own_up x1 4 (own_v2_16 x0 x1 t0 t1 t2 t3 t4 t5) t4
def own_v2_22 (x0 x1 t0 t1 t2 t3 t4 t5 : Int32) : Int32 := own_up x1 5 (own_v2_16 x0 x1 t0 t1 t2 t3 t4 t5) t5
def own_v2_23 (x0 x1 t0 t1 t2 t3 t4 t5 : Int32) : Int32 := own_up x0 0 (own_v2_15 x0 x1 t0 t1 t2 t3 t4 t5) (own_v2_17 x0 x1 t0 t1 t2 t3 t4 t5)
def own_v2_24 (x0 x1 t0 t1 t2 t3 t4 t5 : Int32) : Int32 := own_up x0 1 (own_v2_15 x0 x1 t0 t1 t2 t3 t4 t5) (own_v2_18 x0 x1 t0 t1 t2 t3 t4 t5)
def own_v2_25 (x0 x1 t0 t1 t2 t3 t4 t5 : Int32) : Int32 := own_up x0 2 (own_v2_15 x0 x1 t0 t1 t2 t3 t4 t5) (own_v2_19 x0 x1 t0 t1 t2 t3 t4 t5)
def own_v2_26 (x0 x1 t0 t1 t2 t3 t4 t5 : Int32) : Int32 := own_up x0 3 (own_v2_15 x0 x1 t0 t1 t2 t3 t4 t5) (own_v2_20 x0 x1 t0 t1 t2 t3 t4 t5)
def own_v2_27 (x0 x1 t0 t1 t2 t3 t4 t5 : Int32) : Int32 := own_up x0 4 (own_v2_15 x0 x1 t0 t1 t2 t3 t4 t5) (own_v2_21 x0 x1 t0 t1 t2 t3 t4 t5)
def own_v2_28 (x0 x1 t0 t1 t2 t3 t4 t5 : Int32) : Int32 := own_up x0 5 (own_v2_15 x0 x1 t0 t1 t2 t3 t4 t5) (own_v2_22 x0 x1 t0 t1 t2 t3 t4 t5)
def own_v2_29 (x0 x1 t0 t1 t2 t3 t4 t5 : Int32) : Int32 := own_cat6 t0 t1 t2 t3 t4 t5 x1
def own_v2_30 (x0 x1 t0 t1 t2 t3 t4 t5 : Int32) : Int32 := own_cat6 t0 t1 t2 t3 t4 t5 x0
def own_v2_31 (x0 x1 t0 t1 t2 t3 t4 t5 : Int32) : Int32 := own_up x1 0 (own_v2_30 x0 x1 t0 t1 t2 t3 t4 t5) t0
def own_v2_32 (x0 x1 t0 t1 t2 t3 t4 t5 : Int32) : Int32 := own_up x1 1 (own_v2_30 x0 x1 t0 t1 t2 t3 t4 t5) t1
def own_v2_33 (x0 x1 t0 t1 t2 t3 t4 t5 : Int32) : Int32 := own_up x1 2 (own_v2_30 x0 x1 t0 t1 t2 t3 t4 t5) t2
def own_v2_34 (x0 x1 t0 t1 t2 t3 t4 t5 : Int32) : Int32 := own_up x1 3 (own_v2_30 x0 x1 t0 t1 t2 t3 t4 t5) t3
def own_v2_35 (x0 x1 t0 t1 t2 t3 t4 t5 : Int32) : Int32 := own_up x1 4 (own_v2_30 x0 x1 t0 t1 t2 t3 t4 t5) t4
def own_v2_36 (x0 x1 t0 t1 t2 t3 t4 t5 : Int32) : Int32 := own_up x1 5 (own_v2_30 x0 x1 t0 t1 t2 t3 t4 t5) t5
def own_v2_37 (x0 x1 t0 t1 t2 t3 t4 t5 : Int32) : Int32 := own_up x0 0 (own_v2_29 x0 x1 t0 t1 t2 t3 t4 t5) (own_v2_31 x0 x1 t0 t1 t2 t3 t4 t5)
def own_v2_38 (x0 x1 t0 t1 t2 t3 t4 t5 : Int32) : Int32 := own_up x0 1 (own_v2_29 x0 x1 t0 t1 t2 t3 t4 t5) (own_v2_32 x0 x1 t0 t1 t2 t3 t4 t5)
def own_v2_39 (x0 x1 t0 t1 t2 t3 t4 t5 : Int32) : Int32 := own_up x0 2 (own_v2_29 x0 x1 t0 t1 t2 t3 t4 t5) (own_v2_33 x0 x1 t0 t1 t2 t3 t4 t5)
def own_v2_40 (x0 x1 t0 t1 t2 t3 t4 t5 : Int32) : Int32 := own_up x0 3 (own_v2_29 x0 x1 t0 t1 t2 t3 t4 t5) (own_v2_34 x0 x1 t0 t1 t2 t3 t4 t5)
def own_v2_41 (x0 x1 t0 t1 t2 t3 t4 t5 : Int32) : Int32 := own_up x0 4 (own_v2_29 x0 x1 t0 t1 t2 t3 t4 t5) (own_v2_35 x0 x1 t0 t1 t2 t3 t4 t5)
def own_v2_42 (x0 x1 t0 t1 t2 t3 t4 t5 : Int32) : Int32 := own_up x0 5 (own_v2_29 x0 x1 t0 t1 t2 t3 t4 t5) (own_v2_36 x0 x1 t0 t1 t2 t3 t4 t5)
theorem own_d2_18 : decode prog_15_method_6_code 18 = .ok (.aload_n 0, 1) := by decide +kernel
theorem own_d2_19 : decode prog_15_method_6_code 19 = .ok (.aload_n 1, 1) := by decide +kernel
theorem own_d2_20 : decode prog_15_method_6_code 20 = .ok (.iload_n 3, 1) := by decide +kernel
theorem own_d2_21 : decode prog_15_method_6_code 21 = .ok (.iaload, 1) := by decide +kernel
theorem own_d2_22 : decode prog_15_method_6_code 22 = .ok (.aload_n 0, 1) := by decide +kernel
theorem own_d2_23 : decode prog_15_method_6_code 23 = .ok (.aload_n 1, 1) := by decide +kernel
theorem own_d2_24 : decode prog_15_method_6_code 24 = .ok (.iload_n 3, 1) := by decide +kernel
theorem own_d2_25 : decode prog_15_method_6_code 25 = .ok (.iconst 1, 1) := by decide +kernel
theorem own_d2_26 : decode prog_15_method_6_code 26 = .ok (.isub, 1) := by decide +kernel
theorem own_d2_27 : decode prog_15_method_6_code 27 = .ok (.iaload, 1) := by decide +kernel
theorem own_d2_28 : decode prog_15_method_6_code 28 = .ok (.iaload, 1) := by decide +kernel
theorem own_d2_29 : decode prog_15_method_6_code 29 = .ok (.iastore, 1) := by decide +kernel
theorem own_d2_30 : decode prog_15_method_6_code 30 = .ok (.iinc 3 (-1), 3) := by decide +kernel
theorem own_d2_33 : decode prog_15_method_6_code 33 = .ok (.goto (-19), 3) := by decide +kernel
def own_Q2_2 (Z : State) (a1 : Addr) (a2 : Addr) (t0 : Int32) (t1 : Int32) (t2 : Int32) (t3 : Int32) (t4 : Int32) (t5 : Int32) (x0 : Int32) (x1 : Int32) (h0 : Heap) (n0 : Nat) (v : Option Value) (h : Heap) (L : List Loc) : Prop := v = none ∧ Fr n0 L ∧ Keep h0 h [a1] ∧ own_A Z h a1 .int [.int (own_v2_23 x0 x1 t0 t1 t2 t3 t4 t5), .int (own_v2_24 x0 x1 t0 t1 t2 t3 t4 t5), .int (own_v2_25 x0 x1 t0 t1 t2 t3 t4 t5), .int (own_v2_26 x0 x1 t0 t1 t2 t3 t4 t5), .int (own_v2_27 x0 x1 t0 t1 t2 t3 t4 t5), .int (own_v2_28 x0 x1 t0 t1 t2 t3 t4 t5)] ∧ own_A Z h a2 .int [.int x0, .int x1]
set_option maxRecDepth 65536 in
set_option maxHeartbeats 40000000 in
theorem rm2_2 (l : Launch) (Z : State) (a0 : Array Value) (hw : ∀ d ∈ tables_1, d.before a0 Z = true) (ws : List Jvm.Cond) (a1 : Addr) (a2 : Addr) (t0 : Int32) (t1 : Int32) (t2 : Int32) (t3 : Int32) (t4 : Int32) (t5 : Int32) (x0 : Int32) (x1 : Int32) (h0 : Heap) (n0 : Nat) (V0p : own_A Z h0 a1 .int [.int t0, .int t1, .int t2, .int t3, .int t4, .int t5]) (V1p : own_A Z h0 a2 .int [.int x0, .int x1]) (G_a1 : n0 ≤ a1) (ne_a2_a1 : a2 ≠ a1) (hS : own_S2 x0 x1) :
    MetFree l (⟨"com/example/tourloom/tourloom/GeneticOperators", "shiftRound", "([I[I)V"⟩ : MethodName) (head1 (Jvm.Cond.code (⟨"com/example/tourloom/tourloom/GeneticOperators", "shiftRound", "([I[I)V"⟩ : MethodName) prog_15_method_6_code 4 none :: ws) ({ frames := 0, cells := 0, slots := 0, locals := 0 } : Room)) (fun a U => a = #[.ref a1, .ref a2] ∧ Z.Warmed39 U.vm ∧ U.heap = h0) (fun _ _ _ _ _ => True) (fun _ U o U' => ∃ v L, o = .returned v ∧ own_Q2_2 Z a1 a2 t0 t1 t2 t3 t4 t5 x0 x1 h0 n0 v U'.heap L ∧ FrameEnd U o U' L ({ frames := 0, cells := 0, slots := 0, locals := 0 } : Room).cells ({ frames := 0, cells := 0, slots := 0, locals := 0 } : Room).slots) := by
  refine MetFree.of_bodySF (plainFor_of_name own_pn2) hisR ?_
  intro p e s m args below meth c s₁ Bd hml0 hP hK
  obtain ⟨rfl, hZ, hh⟩ := hP
  have hx := Bd.exec
  have hby := Bd.bytes
  have hml : c.maxLocals = 4 := hml0
  have hown : s.vm.findClass "com/example/tourloom/tourloom/GeneticOperators" = some m.cls := findClass_of_methodNamed Bd.named
  have hnm := (name_of_methodNamed Bd.named Bd.method).1
  have hlk : meth.locks = false := BodyLoose.notSynchronized Bd
  have X0 : Stand p l e ({ frames := 0, cells := 0, slots := 0, locals := 0 } : Room) s m #[.ref a1, .ref a2] below meth c s₁ [] 0 0 := Stand.of_body Bd
  have e0 : s₁.heap = h0 := by rw [← hh, Bd.state]; rfl
  have N0 := Fr.nil n0
  have K0 := Keep.refl h0 [a1]
  show own_Go p e below (own_E s 0 0 (own_Q2_2 Z a1 a2 t0 t1 t2 t3 t4 t5 x0 x1 h0 n0)) (s₁.setTop (entryFrame m #[.ref a1, .ref a2] 4))
  rw [own_ef2]
  refine own_aloadN X0 hx (hb hby own_d2_0) (q := 1) rfl rfl rfl ?_
  refine own_aloadN X0 hx (hb hby own_d2_1) (q := 2) rfl rfl rfl ?_
  refine own_aloadN X0 hx (hb hby own_d2_2) (q := 3) rfl rfl rfl ?_
  refine own_alen X0 hx hZ (n := (2 : Int32)) e0 V1p rfl (hb hby own_d2_3) (q := 4) rfl ?_
  refine own_iconst X0 hx (v := (1 : Int32)) (hb hby own_d2_4) (q := 5) rfl rfl ?_
  refine own_isub X0 hx (hb hby own_d2_5) (q := 6) rfl ?_
  rw [show ((2 : Int32) - (1 : Int32) : Int32) = (1 : Int32) from by decide]
  refine own_iaload X0 hx hZ (i := 1) (v := .int x1) e0 V1p (by decide) (by decide) rfl (hb hby own_d2_6) (q := 7) rfl ?_
  refine own_iaload X0 hx hZ (i := (x1).toNatClampNeg) (v := .int (own_v2_29 x0 x1 t0 t1 t2 t3 t4 t5)) e0 V0p (own_nn6 (own_S2_1 hS)) rfl (own_cat6V (own_S2_1 hS)) (hb hby own_d2_7) (q := 8) rfl ?_
  refine own_istoreN (L' := #[.val (.ref a1), .val (.ref a2), .val (.int (own_v2_29 x0 x1 t0 t1 t2 t3 t4 t5)), .unset]) X0 hx (hb hby own_d2_8) (q := 9) rfl rfl ?_
  refine own_aloadN X0 hx (hb hby own_d2_9) (q := 10) rfl rfl rfl ?_
  refine own_alen X0 hx hZ (n := (2 : Int32)) e0 V1p rfl (hb hby own_d2_10) (q := 11) rfl ?_
  refine own_iconst X0 hx (v := (1 : Int32)) (hb hby own_d2_11) (q := 12) rfl rfl ?_
  refine own_isub X0 hx (hb hby own_d2_12) (q := 13) rfl ?_
  rw [show ((2 : Int32) - (1 : Int32) : Int32) = (1 : Int32) from by decide]
  refine own_istoreN (L' := #[.val (.ref a1), .val (.ref a2), .val (.int (own_v2_29 x0 x1 t0 t1 t2 t3 t4 t5)), .val (.int (1 : Int32))]) X0 hx (hb hby own_d2_13) (q := 14) rfl rfl ?_
  refine own_iloadN X0 hx (hb hby own_d2_14) (q := 15) rfl rfl ?_
  refine own_if0M X0 hx (hb hby own_d2_15) (cd := .le) (x := (1 : Int32)) (pt := 36) (q := 18) (by decide) (by decide) rfl rfl (fun h => False.elim (h ((by decide) : (0 : Int32) < (1 : Int32)))) (fun _ => ?_)
  refine own_aloadN X0 hx (hb hby own_d2_18) (q := 19) rfl rfl rfl ?_
  refine own_aloadN X0 hx (hb hby own_d2_19) (q := 20) rfl rfl rfl ?_
  refine own_iloadN X0 hx (hb hby own_d2_20) (q := 21) rfl rfl ?_
  refine own_iaload X0 hx hZ (i := 1) (v := .int x1) e0 V1p (by decide) (by decide) rfl (hb hby own_d2_21) (q := 22) rfl ?_
  refine own_aloadN X0 hx (hb hby own_d2_22) (q := 23) rfl rfl rfl ?_
  refine own_aloadN X0 hx (hb hby own_d2_23) (q := 24) rfl rfl rfl ?_
  refine own_iloadN X0 hx (hb hby own_d2_24) (q := 25) rfl rfl ?_
  refine own_iconst X0 hx (v := (1 : Int32)) (hb hby own_d2_25) (q := 26) rfl rfl ?_
  refine own_isub X0 hx (hb hby own_d2_26) (q := 27) rfl ?_
  rw [show ((1 : Int32) - (1 : Int32) : Int32) = (0 : Int32) from by decide]
  refine own_iaload X0 hx hZ (i := 0) (v := .int x0) e0 V1p (by decide) (by decide) rfl (hb hby own_d2_27) (q := 28) rfl ?_
  refine own_iaload X0 hx hZ (i := (x0).toNatClampNeg) (v := .int (own_v2_30 x0 x1 t0 t1 t2 t3 t4 t5)) e0 V0p (own_nn6 (own_S2_0 hS)) rfl (own_cat6V (own_S2_0 hS)) (hb hby own_d2_28) (q := 29) rfl ?_
  refine own_iastore X0 hx hZ (i := (x1).toNatClampNeg) e0 V0p (own_nn6 (own_S2_1 hS)) rfl (own_lt6 (own_S2_1 hS)) (hb hby own_d2_29) (q := 30) rfl (fun T68 h71 X69 e70 W72 A73 => ?_)
  replace A73 : own_A Z h71 a1 .int [.int (own_v2_31 x0 x1 t0 t1 t2 t3 t4 t5), .int (own_v2_32 x0 x1 t0 t1 t2 t3 t4 t5), .int (own_v2_33 x0 x1 t0 t1 t2 t3 t4 t5), .int (own_v2_34 x0 x1 t0 t1 t2 t3 t4 t5), .int (own_v2_35 x0 x1 t0 t1 t2 t3 t4 t5), .int (own_v2_36 x0 x1 t0 t1 t2 t3 t4 t5)] := by rw [own_set6 (own_S2_1 hS)] at A73; exact A73
  have V74 := V1p.other W72 ne_a2_a1
  have K75 := K0.wr W72 (Or.inl (List.mem_of_getElem? (i := 0) rfl))
  have N76 := Fr.snoc X69 N0 G_a1
  refine own_iinc (L' := #[.val (.ref a1), .val (.ref a2), .val (.int (own_v2_29 x0 x1 t0 t1 t2 t3 t4 t5)), .val (.int ((1 : Int32) + (-1 : Int32)))]) X69 hx (v := (-1 : Int32)) (hb hby own_d2_30) (q := 33) rfl rfl rfl rfl ?_
  rw [show ((1 : Int32) + (-1 : Int32) : Int32) = (0 : Int32) from by decide]
  refine own_goto X69 hx (hb hby own_d2_33) (q := 14) (by decide) (by decide) ?_
  refine own_iloadN X69 hx (hb hby own_d2_14) (q := 15) rfl rfl ?_
  refine own_if0M X69 hx (hb hby own_d2_15) (cd := .le) (x := (0 : Int32)) (pt := 36) (q := 18) (by decide) (by decide) rfl rfl (fun _ => ?_) (fun h => False.elim (((by decide) : ¬ ((0 : Int32) < (0 : Int32))) h))
  refine own_aloadN X69 hx (hb hby own_d2_36) (q := 37) rfl rfl rfl ?_
  refine own_aloadN X69 hx (hb hby own_d2_37) (q := 38) rfl rfl rfl ?_
  refine own_iconst X69 hx (v := (0 : Int32)) (hb hby own_d2_38) (q := 39) rfl rfl ?_
  refine own_iaload X69 hx hZ (i := 0) (v := .int x0) e70 V74 (by decide) (by decide) rfl (hb hby own_d2_39) (q := 40) rfl ?_
  refine own_iloadN X69 hx (hb hby own_d2_40) (q := 41) rfl rfl ?_
  refine own_iastore X69 hx hZ (i := (x0).toNatClampNeg) e70 A73 (own_nn6 (own_S2_0 hS)) rfl (own_lt6 (own_S2_0 hS)) (hb hby own_d2_41) (q := 42) rfl (fun T77 h80 X78 e79 W81 A82 => ?_)
  replace A82 : own_A Z h80 a1 .int [.int (own_v2_37 x0 x1 t0 t1 t2 t3 t4 t5), .int (own_v2_38 x0 x1 t0 t1 t2 t3 t4 t5), .int (own_v2_39 x0 x1 t0 t1 t2 t3 t4 t5), .int (own_v2_40 x0 x1 t0 t1 t2 t3 t4 t5), .int (own_v2_41 x0 x1 t0 t1 t2 t3 t4 t5), .int (own_v2_42 x0 x1 t0 t1 t2 t3 t4 t5)] := by rw [own_set6 (own_S2_0 hS)] at A82; exact A82
  have V83 := V74.other W81 ne_a2_a1
  have K84 := K75.wr W81 (Or.inl (List.mem_of_getElem? (i := 0) rfl))
  have N85 := Fr.snoc X78 N76 G_a1
  refine own_retV X78 hx hlk (rest := []) Bd.returns (hb hby own_d2_42) ?_ (by decide) (by decide)
  show own_Q2_2 Z a1 a2 t0 t1 t2 t3 t4 t5 x0 x1 h0 n0 _ T77.heap _
  rw [e79]
  exact ⟨rfl, N85, K84, A82, V83⟩
theorem own_ef3_k2 (m : MethodId) (a1 : Addr) (a2 : Addr) : entryFrame m #[.ref a1, .ref a2, .int (2 : Int32)] 4 = mkF m 0 #[.val (.ref a1), .val (.ref a2), .val (.int (2 : Int32)), .unset] [] := by first | (simp [entryFrame, mkF, argsToLocals, Value.category]; done) | rfl
theorem own_d3_45 : decode method_4_code 45 = .ok (.aload_n 0, 1) := by decide +kernel
theorem own_d3_46 : decode method_4_code 46 = .ok (.iconst 1, 1) := by decide +kernel
theorem own_d3_47 : decode method_4_code 47 = .ok (.iaload, 1) := by decide +kernel
theorem own_d3_48 : decode method_4_code 48 = .ok (.aload_n 1, 1) := by decide +kernel
theorem own_d3_49 : decode method_4_code 49 = .ok (.iconst 1, 1) := by decide +kernel
theorem own_d3_50 : decode method_4_code 50 = .ok (.iaload, 1) := by decide +kernel
theorem own_d3_51 : decode method_4_code 51 = .ok (.if_icmp .ne 7, 3) := by decide +kernel
theorem own_d3_54 : decode method_4_code 54 = .ok (.iconst 1, 1) := by decide +kernel
theorem own_d3_55 : decode method_4_code 55 = .ok (.goto 4, 3) := by decide +kernel
theorem own_d3_59 : decode method_4_code 59 = .ok (.istore_n 3, 1) := by decide +kernel
def own_f3_2 (x0 : Int32) (x1 : Int32) : Int32 := (1 : Int32)
set_option maxRecDepth 65536 in
set_option maxHeartbeats 40000000 in
theorem rm3_2 (l : Launch) (Z : State) (a0 : Array Value) (hw : ∀ d ∈ tables_1, d.before a0 Z = true) (ws : List Jvm.Cond) (a1 : Addr) (a2 : Addr) (x0 : Int32) (x1 : Int32) (h0 : Heap) (V0p : own_A Z h0 a1 .int [.int x0, .int x1]) (V1p : own_A Z h0 a2 .int [.int x0, .int x1, .int (0 : Int32), .int (0 : Int32), .int (0 : Int32), .int (0 : Int32)]) :
    MetFree l (⟨"com/example/tourloom/tourloom/GeneticOperatorsShiftRoundPinLaw", "risingKept", "([I[II)Z"⟩ : MethodName) (head1 (Jvm.Cond.code (⟨"com/example/tourloom/tourloom/GeneticOperatorsShiftRoundPinLaw", "risingKept", "([I[II)Z"⟩ : MethodName) method_4_code 4 (some .boolean) :: ws) ({ frames := 0, cells := 0, slots := 0, locals := 0 } : Room)) (fun a U => a = #[.ref a1, .ref a2, .int (2 : Int32)] ∧ Z.Warmed39 U.vm ∧ U.heap = h0) (fun _ _ _ _ _ => True) (fun _ U o U' => ∃ v L, o = .returned v ∧ own_P (.int (own_f3_2 x0 x1)) h0 v U'.heap L ∧ FrameEnd U o U' L ({ frames := 0, cells := 0, slots := 0, locals := 0 } : Room).cells ({ frames := 0, cells := 0, slots := 0, locals := 0 } : Room).slots) := by
  refine MetFree.of_bodySF (plainFor_of_name own_pn0) hisR ?_
  intro p e s m args below meth c s₁ Bd hml0 hP hK
  obtain ⟨rfl, hZ, hh⟩ := hP
  have hx := Bd.exec
  have hby := Bd.bytes
  have hml : c.maxLocals = 4 := hml0
  have hown : s.vm.findClass "com/example/tourloom/tourloom/GeneticOperatorsShiftRoundPinLaw" = some m.cls := findClass_of_methodNamed Bd.named
  have hnm := (name_of_methodNamed Bd.named Bd.method).1
  have hlk : meth.locks = false := BodyLoose.notSynchronized Bd
  have X0 : Stand p l e ({ frames := 0, cells := 0, slots := 0, locals := 0 } : Room) s m #[.ref a1, .ref a2, .int (2 : Int32)] below meth c s₁ [] 0 0 := Stand.of_body Bd
  have e0 : s₁.heap = h0 := by rw [← hh, Bd.state]; rfl
  show own_Go p e below (own_E s 0 0 (own_P (.int (own_f3_2 x0 x1)) h0)) (s₁.setTop (entryFrame m #[.ref a1, .ref a2, .int (2 : Int32)] 4))
  rw [own_ef3_k2]
  refine own_aloadN X0 hx (hb hby own_d3_0) (q := 1) rfl rfl rfl ?_
  refine own_alen X0 hx hZ (n := (2 : Int32)) e0 V0p rfl (hb hby own_d3_1) (q := 2) rfl ?_
  refine own_iloadN X0 hx (hb hby own_d3_2) (q := 3) rfl rfl ?_
  refine own_icmpM X0 hx (hb hby own_d3_3) (cd := .ne) (x := (2 : Int32)) (y := (2 : Int32)) (pt := 10) (q := 6) (by decide) (by decide) rfl rfl (fun h => False.elim (h ((by decide) : (2 : Int32) = (2 : Int32)))) (fun _ => ?_)
  refine own_iconst X0 hx (v := (1 : Int32)) (hb hby own_d3_6) (q := 7) rfl rfl ?_
  refine own_goto X0 hx (hb hby own_d3_7) (q := 11) (by decide) (by decide) ?_
  refine own_istoreN (L' := #[.val (.ref a1), .val (.ref a2), .val (.int (2 : Int32)), .val (.int (1 : Int32))]) X0 hx (hb hby own_d3_11) (q := 12) rfl rfl ?_
  refine own_iloadN X0 hx (hb hby own_d3_12) (q := 13) rfl rfl ?_
  refine own_if0P X0 hx (hb hby own_d3_13) (cd := .eq) (x := (1 : Int32)) (pt := 36) (q := 16) (by decide) (by decide) rfl rfl (fun h => False.elim (((by decide) : ¬ ((1 : Int32) = (0 : Int32))) h)) (fun _ => ?_)
  refine own_iloadN X0 hx (hb hby own_d3_16) (q := 17) rfl rfl ?_
  refine own_iconst X0 hx (v := (1 : Int32)) (hb hby own_d3_17) (q := 18) rfl rfl ?_
  refine own_icmpP X0 hx (hb hby own_d3_18) (cd := .lt) (x := (2 : Int32)) (y := (1 : Int32)) (pt := 36) (q := 21) (by decide) (by decide) rfl rfl (fun h => False.elim (((by decide) : ¬ ((2 : Int32) < (1 : Int32))) h)) (fun _ => ?_)
  refine own_aloadN X0 hx (hb hby own_d3_21) (q := 22) rfl rfl rfl ?_
  refine own_iconst X0 hx (v := (0 : Int32)) (hb hby own_d3_22) (q := 23) rfl rfl ?_
  refine own_iaload X0 hx hZ (i := 0) (v := .int x0) e0 V0p (by decide) (by decide) rfl (hb hby own_d3_23) (q := 24) rfl ?_
  refine own_aloadN X0 hx (hb hby own_d3_24) (q := 25) rfl rfl rfl ?_
  refine own_iconst X0 hx (v := (0 : Int32)) (hb hby own_d3_25) (q := 26) rfl rfl ?_
  refine own_iaload X0 hx hZ (i := 0) (v := .int x0) e0 V1p (by decide) (by decide) rfl (hb hby own_d3_26) (q := 27) rfl ?_
  refine own_icmpM X0 hx (hb hby own_d3_27) (cd := .ne) (x := x0) (y := x0) (pt := 34) (q := 30) (by decide) (by decide) rfl rfl (fun h => False.elim (h (rfl : x0 = x0))) (fun _ => ?_)
  refine own_iconst X0 hx (v := (1 : Int32)) (hb hby own_d3_30) (q := 31) rfl rfl ?_
  refine own_goto X0 hx (hb hby own_d3_31) (q := 35) (by decide) (by decide) ?_
  refine own_istoreN (L' := #[.val (.ref a1), .val (.ref a2), .val (.int (2 : Int32)), .val (.int (1 : Int32))]) X0 hx (hb hby own_d3_35) (q := 36) rfl rfl ?_
  refine own_iloadN X0 hx (hb hby own_d3_36) (q := 37) rfl rfl ?_
  refine own_if0P X0 hx (hb hby own_d3_37) (cd := .eq) (x := (1 : Int32)) (pt := 60) (q := 40) (by decide) (by decide) rfl rfl (fun h => False.elim (((by decide) : ¬ ((1 : Int32) = (0 : Int32))) h)) (fun _ => ?_)
  refine own_iloadN X0 hx (hb hby own_d3_40) (q := 41) rfl rfl ?_
  refine own_iconst X0 hx (v := (2 : Int32)) (hb hby own_d3_41) (q := 42) rfl rfl ?_
  refine own_icmpP X0 hx (hb hby own_d3_42) (cd := .lt) (x := (2 : Int32)) (y := (2 : Int32)) (pt := 60) (q := 45) (by decide) (by decide) rfl rfl (fun h => False.elim (((by decide) : ¬ ((2 : Int32) < (2 : Int32))) h)) (fun _ => ?_)
  refine own_aloadN X0 hx (hb hby own_d3_45) (q := 46) rfl rfl rfl ?_
  refine own_iconst X0 hx (v := (1 : Int32)) (hb hby own_d3_46) (q := 47) rfl rfl ?_
  refine own_iaload X0 hx hZ (i := 1) (v := .int x1) e0 V0p (by decide) (by decide) rfl (hb hby own_d3_47) (q := 48) rfl ?_
  refine own_aloadN X0 hx (hb hby own_d3_48) (q := 49) rfl rfl rfl ?_
  refine own_iconst X0 hx (v := (1 : Int32)) (hb hby own_d3_49) (q := 50) rfl rfl ?_
  refine own_iaload X0 hx hZ (i := 1) (v := .int x1) e0 V1p (by decide) (by decide) rfl (hb hby own_d3_50) (q := 51) rfl ?_
  refine own_icmpM X0 hx (hb hby own_d3_51) (cd := .ne) (x := x1) (y := x1) (pt := 58) (q := 54) (by decide) (by decide) rfl rfl (fun h => False.elim (h (rfl : x1 = x1))) (fun _ => ?_)
  refine own_iconst X0 hx (v := (1 : Int32)) (hb hby own_d3_54) (q := 55) rfl rfl ?_
  refine own_goto X0 hx (hb hby own_d3_55) (q := 59) (by decide) (by decide) ?_
  refine own_istoreN (L' := #[.val (.ref a1), .val (.ref a2), .val (.int (2 : Int32)), .val (.int (1 : Int32))]) X0 hx (hb hby own_d3_59) (q := 60) rfl rfl ?_
  refine own_iloadN X0 hx (hb hby own_d3_60) (q := 61) rfl rfl ?_
  refine own_if0P X0 hx (hb hby own_d3_61) (cd := .eq) (x := (1 : Int32)) (pt := 84) (q := 64) (by decide) (by decide) rfl rfl (fun h => False.elim (((by decide) : ¬ ((1 : Int32) = (0 : Int32))) h)) (fun _ => ?_)
  refine own_iloadN X0 hx (hb hby own_d3_64) (q := 65) rfl rfl ?_
  refine own_iconst X0 hx (v := (3 : Int32)) (hb hby own_d3_65) (q := 66) rfl rfl ?_
  refine own_icmpP X0 hx (hb hby own_d3_66) (cd := .lt) (x := (2 : Int32)) (y := (3 : Int32)) (pt := 84) (q := 69) (by decide) (by decide) rfl rfl (fun _ => ?_) (fun h => False.elim (h ((by decide) : (2 : Int32) < (3 : Int32))))
  refine own_iloadN X0 hx (hb hby own_d3_84) (q := 85) rfl rfl ?_
  refine own_if0P X0 hx (hb hby own_d3_85) (cd := .eq) (x := (1 : Int32)) (pt := 108) (q := 88) (by decide) (by decide) rfl rfl (fun h => False.elim (((by decide) : ¬ ((1 : Int32) = (0 : Int32))) h)) (fun _ => ?_)
  refine own_iloadN X0 hx (hb hby own_d3_88) (q := 89) rfl rfl ?_
  refine own_iconst X0 hx (v := (4 : Int32)) (hb hby own_d3_89) (q := 90) rfl rfl ?_
  refine own_icmpP X0 hx (hb hby own_d3_90) (cd := .lt) (x := (2 : Int32)) (y := (4 : Int32)) (pt := 108) (q := 93) (by decide) (by decide) rfl rfl (fun _ => ?_) (fun h => False.elim (h ((by decide) : (2 : Int32) < (4 : Int32))))
  refine own_iloadN X0 hx (hb hby own_d3_108) (q := 109) rfl rfl ?_
  refine own_if0P X0 hx (hb hby own_d3_109) (cd := .eq) (x := (1 : Int32)) (pt := 132) (q := 112) (by decide) (by decide) rfl rfl (fun h => False.elim (((by decide) : ¬ ((1 : Int32) = (0 : Int32))) h)) (fun _ => ?_)
  refine own_iloadN X0 hx (hb hby own_d3_112) (q := 113) rfl rfl ?_
  refine own_iconst X0 hx (v := (5 : Int32)) (hb hby own_d3_113) (q := 114) rfl rfl ?_
  refine own_icmpP X0 hx (hb hby own_d3_114) (cd := .lt) (x := (2 : Int32)) (y := (5 : Int32)) (pt := 132) (q := 117) (by decide) (by decide) rfl rfl (fun _ => ?_) (fun h => False.elim (h ((by decide) : (2 : Int32) < (5 : Int32))))
  refine own_iloadN X0 hx (hb hby own_d3_132) (q := 133) rfl rfl ?_
  refine own_if0P X0 hx (hb hby own_d3_133) (cd := .eq) (x := (1 : Int32)) (pt := 157) (q := 136) (by decide) (by decide) rfl rfl (fun h => False.elim (((by decide) : ¬ ((1 : Int32) = (0 : Int32))) h)) (fun _ => ?_)
  refine own_iloadN X0 hx (hb hby own_d3_136) (q := 137) rfl rfl ?_
  refine own_bipush X0 hx (v := (6 : Int32)) (hb hby own_d3_137) (q := 139) rfl rfl ?_
  refine own_icmpP X0 hx (hb hby own_d3_139) (cd := .lt) (x := (2 : Int32)) (y := (6 : Int32)) (pt := 157) (q := 142) (by decide) (by decide) rfl rfl (fun _ => ?_) (fun h => False.elim (h ((by decide) : (2 : Int32) < (6 : Int32))))
  refine own_iloadN X0 hx (hb hby own_d3_157) (q := 158) rfl rfl ?_
  refine own_retN X0 hx hlk (t := .boolean) (by simp) Bd.returns (hb hby own_d3_158) ?_ (by decide) (by decide)
  have r : own_f3_2 x0 x1 = (1 : Int32) := by rw [own_f3_2]
  exact ⟨by rw [r] <;> rfl, e0, rfl⟩
theorem own_ef1_k3 (m : MethodId) (a1 : Addr) : entryFrame m #[.ref a1, .int (3 : Int32)] 2 = mkF m 0 #[.val (.ref a1), .val (.int (3 : Int32))] [] := by first | (simp [entryFrame, mkF, argsToLocals, Value.category]; done) | rfl
theorem own_d1_36 : decode method_3_code 36 = .ok (.iload_n 1, 1) := by decide +kernel
theorem own_d1_37 : decode method_3_code 37 = .ok (.iconst 3, 1) := by decide +kernel
theorem own_d1_38 : decode method_3_code 38 = .ok (.if_icmp .ne 25, 3) := by decide +kernel
theorem own_d1_41 : decode method_3_code 41 = .ok (.iconst 3, 1) := by decide +kernel
theorem own_d1_42 : decode method_3_code 42 = .ok (.newarray .int, 2) := by decide +kernel
theorem own_d1_44 : decode method_3_code 44 = .ok (.dup, 1) := by decide +kernel
theorem own_d1_45 : decode method_3_code 45 = .ok (.iconst 0, 1) := by decide +kernel
theorem own_d1_46 : decode method_3_code 46 = .ok (.aload_n 0, 1) := by decide +kernel
theorem own_d1_47 : decode method_3_code 47 = .ok (.iconst 0, 1) := by decide +kernel
theorem own_d1_48 : decode method_3_code 48 = .ok (.iaload, 1) := by decide +kernel
theorem own_d1_49 : decode method_3_code 49 = .ok (.iastore, 1) := by decide +kernel
theorem own_d1_50 : decode method_3_code 50 = .ok (.dup, 1) := by decide +kernel
theorem own_d1_51 : decode method_3_code 51 = .ok (.iconst 1, 1) := by decide +kernel
theorem own_d1_52 : decode method_3_code 52 = .ok (.aload_n 0, 1) := by decide +kernel
theorem own_d1_53 : decode method_3_code 53 = .ok (.iconst 1, 1) := by decide +kernel
theorem own_d1_54 : decode method_3_code 54 = .ok (.iaload, 1) := by decide +kernel
theorem own_d1_55 : decode method_3_code 55 = .ok (.iastore, 1) := by decide +kernel
theorem own_d1_56 : decode method_3_code 56 = .ok (.dup, 1) := by decide +kernel
theorem own_d1_57 : decode method_3_code 57 = .ok (.iconst 2, 1) := by decide +kernel
theorem own_d1_58 : decode method_3_code 58 = .ok (.aload_n 0, 1) := by decide +kernel
theorem own_d1_59 : decode method_3_code 59 = .ok (.iconst 2, 1) := by decide +kernel
theorem own_d1_60 : decode method_3_code 60 = .ok (.iaload, 1) := by decide +kernel
theorem own_d1_61 : decode method_3_code 61 = .ok (.iastore, 1) := by decide +kernel
theorem own_d1_62 : decode method_3_code 62 = .ok (.areturn, 1) := by decide +kernel
def own_Q1_3 (Z : State) (a1 : Addr) (x0 : Int32) (x1 : Int32) (x2 : Int32) (h0 : Heap) (n0 : Nat) (v : Option Value) (h : Heap) (L : List Loc) : Prop := ∃ ra0 : Addr, v = some (.ref ra0) ∧ Fr n0 L ∧ Keep h0 h [] ∧ h0.size ≤ ra0 ∧ own_A Z h ra0 .int [.int x0, .int x1, .int x2]
set_option maxRecDepth 65536 in
set_option maxHeartbeats 40000000 in
theorem rm1_3 (l : Launch) (Z : State) (a0 : Array Value) (hw : ∀ d ∈ tables_1, d.before a0 Z = true) (ws : List Jvm.Cond) (a1 : Addr) (x0 : Int32) (x1 : Int32) (x2 : Int32) (h0 : Heap) (n0 : Nat) (Z0 : n0 ≤ h0.size) (V0p : own_A Z h0 a1 .int [.int x0, .int x1, .int x2, .int (0 : Int32), .int (0 : Int32), .int (0 : Int32)]) :
    MetFree l (⟨"com/example/tourloom/tourloom/GeneticOperatorsShiftRoundPinLaw", "pick", "([II)[I"⟩ : MethodName) (head1 (Jvm.Cond.code (⟨"com/example/tourloom/tourloom/GeneticOperatorsShiftRoundPinLaw", "pick", "([II)[I"⟩ : MethodName) method_3_code 2 (some (.array .int)) :: ws) ({ frames := 0, cells := 1, slots := 3, locals := 0 } : Room)) (fun a U => a = #[.ref a1, .int (3 : Int32)] ∧ Z.Warmed39 U.vm ∧ U.heap = h0) (fun _ _ _ _ _ => True) (fun _ U o U' => ∃ v L, o = .returned v ∧ own_Q1_3 Z a1 x0 x1 x2 h0 n0 v U'.heap L ∧ FrameEnd U o U' L ({ frames := 0, cells := 1, slots := 3, locals := 0 } : Room).cells ({ frames := 0, cells := 1, slots := 3, locals := 0 } : Room).slots) := by
  refine MetFree.of_bodySF (plainFor_of_name own_pn0) hisR ?_
  intro p e s m args below meth c s₁ Bd hml0 hP hK
  obtain ⟨rfl, hZ, hh⟩ := hP
  have hx := Bd.exec
  have hby := Bd.bytes
  have hml : c.maxLocals = 2 := hml0
  have hown : s.vm.findClass "com/example/tourloom/tourloom/GeneticOperatorsShiftRoundPinLaw" = some m.cls := findClass_of_methodNamed Bd.named
  have hnm := (name_of_methodNamed Bd.named Bd.method).1
  have hlk : meth.locks = false := BodyLoose.notSynchronized Bd
  have X0 : Stand p l e ({ frames := 0, cells := 1, slots := 3, locals := 0 } : Room) s m #[.ref a1, .int (3 : Int32)] below meth c s₁ [] 0 0 := Stand.of_body Bd
  have e0 : s₁.heap = h0 := by rw [← hh, Bd.state]; rfl
  have N0 := Fr.nil n0
  have K0 := Keep.refl h0 []
  show own_Go p e below (own_E s 1 3 (own_Q1_3 Z a1 x0 x1 x2 h0 n0)) (s₁.setTop (entryFrame m #[.ref a1, .int (3 : Int32)] 2))
  rw [own_ef1_k3]
  refine own_iloadN X0 hx (hb hby own_d1_0) (q := 1) rfl rfl ?_
  refine own_iconst X0 hx (v := (1 : Int32)) (hb hby own_d1_1) (q := 2) rfl rfl ?_
  refine own_icmpM X0 hx (hb hby own_d1_2) (cd := .ne) (x := (3 : Int32)) (y := (1 : Int32)) (pt := 15) (q := 5) (by decide) (by decide) rfl rfl (fun _ => ?_) (fun h => False.elim (((by decide) : ¬ ((3 : Int32) = (1 : Int32))) h))
  refine own_iloadN X0 hx (hb hby own_d1_15) (q := 16) rfl rfl ?_
  refine own_iconst X0 hx (v := (2 : Int32)) (hb hby own_d1_16) (q := 17) rfl rfl ?_
  refine own_icmpM X0 hx (hb hby own_d1_17) (cd := .ne) (x := (3 : Int32)) (y := (2 : Int32)) (pt := 36) (q := 20) (by decide) (by decide) rfl rfl (fun _ => ?_) (fun h => False.elim (((by decide) : ¬ ((3 : Int32) = (2 : Int32))) h))
  refine own_iloadN X0 hx (hb hby own_d1_36) (q := 37) rfl rfl ?_
  refine own_iconst X0 hx (v := (3 : Int32)) (hb hby own_d1_37) (q := 38) rfl rfl ?_
  refine own_icmpM X0 hx (hb hby own_d1_38) (cd := .ne) (x := (3 : Int32)) (y := (3 : Int32)) (pt := 63) (q := 41) (by decide) (by decide) rfl rfl (fun h => False.elim (h ((by decide) : (3 : Int32) = (3 : Int32)))) (fun _ => ?_)
  refine own_iconst X0 hx (v := (3 : Int32)) (hb hby own_d1_41) (q := 42) rfl rfl ?_
  refine own_newA X0 hx hZ (aty := .int) (ty := .int) (k := 3) (cap := 3) rfl (hw _ (List.mem_of_getElem? (i := 1) rfl)) e0 (by decide) (by decide) (by decide) (by decide) (by decide) (by decide) (hb hby own_d1_42) (q := 44) rfl (fun T86 h89 a90 X87 e88 g91 E92 A93 => ?_)
  have O94 : h0.size ≤ a90 := by rw [g91]; exact K0.1
  have V95 := V0p.ext E92
  have K96 := K0.ext E92
  have ne97 : a1 ≠ a90 := by rw [g91]; exact Nat.ne_of_lt V0p.lt
  have Z98 : n0 ≤ a90 := by rw [g91]; exact Z0
  have Z99 : n0 ≤ h89.size := Nat.le_trans Z0 E92.1
  replace A93 : own_A Z h89 a90 .int [.int (0 : Int32), .int (0 : Int32), .int (0 : Int32)] := A93
  refine own_dup X87 hx (hb hby own_d1_44) (q := 45) rfl rfl ?_
  refine own_iconst X87 hx (v := (0 : Int32)) (hb hby own_d1_45) (q := 46) rfl rfl ?_
  refine own_aloadN X87 hx (hb hby own_d1_46) (q := 47) rfl rfl rfl ?_
  refine own_iconst X87 hx (v := (0 : Int32)) (hb hby own_d1_47) (q := 48) rfl rfl ?_
  refine own_iaload X87 hx hZ (i := 0) (v := .int x0) e88 V95 (by decide) (by decide) rfl (hb hby own_d1_48) (q := 49) rfl ?_
  refine own_iastore X87 hx hZ (i := 0) e88 A93 (by decide) (by decide) (Nat.le_of_ble_eq_true rfl) (hb hby own_d1_49) (q := 50) rfl (fun T100 h103 X101 e102 W104 A105 => ?_)
  replace A105 : own_A Z h103 a90 .int [.int x0, .int (0 : Int32), .int (0 : Int32)] := A105
  have V106 := V95.other W104 ne97
  have K107 := K96.wr W104 (Or.inr O94)
  have Z108 : n0 ≤ h103.size := W104.size ▸ Z99
  have N109 := Fr.snoc X101 N0 Z98
  refine own_dup X101 hx (hb hby own_d1_50) (q := 51) rfl rfl ?_
  refine own_iconst X101 hx (v := (1 : Int32)) (hb hby own_d1_51) (q := 52) rfl rfl ?_
  refine own_aloadN X101 hx (hb hby own_d1_52) (q := 53) rfl rfl rfl ?_
  refine own_iconst X101 hx (v := (1 : Int32)) (hb hby own_d1_53) (q := 54) rfl rfl ?_
  refine own_iaload X101 hx hZ (i := 1) (v := .int x1) e102 V106 (by decide) (by decide) rfl (hb hby own_d1_54) (q := 55) rfl ?_
  refine own_iastore X101 hx hZ (i := 1) e102 A105 (by decide) (by decide) (Nat.le_of_ble_eq_true rfl) (hb hby own_d1_55) (q := 56) rfl (fun T110 h113 X111 e112 W114 A115 => ?_)
  replace A115 : own_A Z h113 a90 .int [.int x0, .int x1, .int (0 : Int32)] := A115
  have V116 := V106.other W114 ne97
  have K117 := K107.wr W114 (Or.inr O94)
  have Z118 : n0 ≤ h113.size := W114.size ▸ Z108
  have N119 := Fr.snoc X111 N109 Z98
  refine own_dup X111 hx (hb hby own_d1_56) (q := 57) rfl rfl ?_
  refine own_iconst X111 hx (v := (2 : Int32)) (hb hby own_d1_57) (q := 58) rfl rfl ?_
  refine own_aloadN X111 hx (hb hby own_d1_58) (q := 59) rfl rfl rfl ?_
  refine own_iconst X111 hx (v := (2 : Int32)) (hb hby own_d1_59) (q := 60) rfl rfl ?_
  refine own_iaload X111 hx hZ (i := 2) (v := .int x2) e112 V116 (by decide) (by decide) rfl (hb hby own_d1_60) (q := 61) rfl ?_
  refine own_iastore X111 hx hZ (i := 2) e112 A115 (by decide) (by decide) (Nat.le_of_ble_eq_true rfl) (hb hby own_d1_61) (q := 62) rfl (fun T120 h123 X121 e122 W124 A125 => ?_)
  replace A125 : own_A Z h123 a90 .int [.int x0, .int x1, .int x2] := A125
  have V126 := V116.other W124 ne97
  have K127 := K117.wr W124 (Or.inr O94)
  have Z128 : n0 ≤ h123.size := W124.size ▸ Z118
  have N129 := Fr.snoc X121 N119 Z98
  refine own_retA X121 hx hlk rfl rfl rfl Bd.returns (hb hby own_d1_62) ?_ (by decide) (by decide)
  show own_Q1_3 Z a1 x0 x1 x2 h0 n0 _ T120.heap _
  rw [e122]
  exact ⟨a90, rfl, N129, K127, O94, A125⟩
def own_v3_43 (x0 x1 x2 t0 t1 t2 t3 t4 t5 : Int32) : Int32 := own_cat6 t0 t1 t2 t3 t4 t5 x2
def own_v3_44 (x0 x1 x2 t0 t1 t2 t3 t4 t5 : Int32) : Int32 := own_cat6 t0 t1 t2 t3 t4 t5 x1
def own_v3_45 (x0 x1 x2 t0 t1 t2 t3 t4 t5 : Int32) : Int32 := own_up x2 0 (own_v3_44 x0 x1 x2 t0 t1 t2 t3 t4 t5) t0
def own_v3_46 (x0 x1 x2 t0 t1 t2 t3 t4 t5 : Int32) : Int32 := own_up x2 1 (own_v3_44 x0 x1 x2 t0 t1 t2 t3 t4 t5) t1
def own_v3_47 (x0 x1 x2 t0 t1 t2 t3 t4 t5 : Int32) : Int32 := own_up x2 2 (own_v3_44 x0 x1 x2 t0 t1 t2 t3 t4 t5) t2
def own_v3_48 (x0 x1 x2 t0 t1 t2 t3 t4 t5 : Int32) : Int32 := own_up x2 3 (own_v3_44 x0 x1 x2 t0 t1 t2 t3 t4 t5) t3
def own_v3_49 (x0 x1 x2 t0 t1 t2 t3 t4 t5 : Int32) : Int32 := own_up x2 4 (own_v3_44 x0 x1 x2 t0 t1 t2 t3 t4 t5) t4
def own_v3_50 (x0 x1 x2 t0 t1 t2 t3 t4 t5 : Int32) : Int32 := own_up x2 5 (own_v3_44 x0 x1 x2 t0 t1 t2 t3 t4 t5) t5
def own_v3_51 (x0 x1 x2 t0 t1 t2 t3 t4 t5 : Int32) : Int32 := own_cat6 (own_v3_45 x0 x1 x2 t0 t1 t2 t3 t4 t5) (own_v3_46 x0 x1 x2 t0 t1 t2 t3 t4 t5) (own_v3_47 x0 x1 x2 t0 t1 t2 t3 t4 t5) (own_v3_48 x0 x1 x2 t0 t1 t2 t3 t4 t5) (own_v3_49 x0 x1 x2 t0 t1 t2 t3 t4 t5) (own_v3_50 x0 x1 x2 t0 t1 t2 t3 t4 t5) x0
def own_v3_52 (x0 x1 x2 t0 t1 t2 t3 t4 t5 : Int32) : Int32 := own_up x1 0 (own_v3_51 x0 x1 x2 t0 t1 t2 t3 t4 t5) (own_v3_45 x0 x1 x2 t0 t1 t2 t3 t4 t5)
def own_v3_53 (x0 x1 x2 t0 t1 t2 t3 t4 t5 : Int32) : Int32 := own_up x1 1 (own_v3_51 x0 x1 x2 t0 t1 t2 t3 t4 t5) (own_v3_46 x0 x1 x2 t0 t1 t2 t3 t4 t5)
def own_v3_54 (x0 x1 x2 t0 t1 t2 t3 t4 t5 : Int32) : Int32 := own_up x1 2 (own_v3_51 x0 x1 x2 t0 t1 t2 t3 t4 t5) (own_v3_47 x0 x1 x2 t0 t1 t2 t3 t4 t5)
def own_v3_55 (x0 x1 x2 t0 t1 t2 t3 t4 t5 : Int32) : Int32 := own_up x1 3 (own_v3_51 x0 x1 x2 t0 t1 t2 t3 t4 t5) (own_v3_48 x0 x1 x2 t0 t1 t2 t3 t4 t5)
def own_v3_56 (x0 x1 x2 t0 t1 t2 t3 t4 t5 : Int32) : Int32 := own_up x1 4 (own_v3_51 x0 x1 x2 t0 t1 t2 t3 t4 t5) (own_v3_49 x0 x1 x2 t0 t1 t2 t3 t4 t5)
def own_v3_57 (x0 x1 x2 t0 t1 t2 t3 t4 t5 : Int32) : Int32 := own_up x1 5 (own_v3_51 x0 x1 x2 t0 t1 t2 t3 t4 t5) (own_v3_50 x0 x1 x2 t0 t1 t2 t3 t4 t5)
def own_v3_58 (x0 x1 x2 t0 t1 t2 t3 t4 t5 : Int32) : Int32 := own_up x0 0 (own_v3_43 x0 x1 x2 t0 t1 t2 t3 t4 t5) (own_v3_52 x0 x1 x2 t0 t1 t2 t3 t4 t5)
def own_v3_59 (x0 x1 x2 t0 t1 t2 t3 t4 t5 : Int32) : Int32 := own_up x0 1 (own_v3_43 x0 x1 x2 t0 t1 t2 t3 t4 t5) (own_v3_53 x0 x1 x2 t0 t1 t2 t3 t4 t5)
def own_v3_60 (x0 x1 x2 t0 t1 t2 t3 t4 t5 : Int32) : Int32 := own_up x0 2 (own_v3_43 x0 x1 x2 t0 t1 t2 t3 t4 t5) (own_v3_54 x0 x1 x2 t0 t1 t2 t3 t4 t5)
def own_v3_61 (x0 x1 x2 t0 t1 t2 t3 t4 t5 : Int32) : Int32 := own_up x0 3 (own_v3_43 x0 x1 x2 t0 t1 t2 t3 t4 t5) (own_v3_55 x0 x1 x2 t0 t1 t2 t3 t4 t5)
def own_v3_62 (x0 x1 x2 t0 t1 t2 t3 t4 t5 : Int32) : Int32 := own_up x0 4 (own_v3_43 x0 x1 x2 t0 t1 t2 t3 t4 t5) (own_v3_56 x0 x1 x2 t0 t1 t2 t3 t4 t5)
def own_v3_63 (x0 x1 x2 t0 t1 t2 t3 t4 t5 : Int32) : Int32 := own_up x0 5 (own_v3_43 x0 x1 x2 t0 t1 t2 t3 t4 t5) (own_v3_57 x0 x1 x2 t0 t1 t2 t3 t4 t5)
def own_v3_64 (x0 x1 x2 t0 t1 t2 t3 t4 t5 : Int32) : Int32 := own_cat6 t0 t1 t2 t3 t4 t5 x2
def own_v3_65 (x0 x1 x2 t0 t1 t2 t3 t4 t5 : Int32) : Int32 := own_cat6 t0 t1 t2 t3 t4 t5 x1
def own_v3_66 (x0 x1 x2 t0 t1 t2 t3 t4 t5 : Int32) : Int32 := own_up x2 0 (own_v3_65 x0 x1 x2 t0 t1 t2 t3 t4 t5) t0
def own_v3_67 (x0 x1 x2 t0 t1 t2 t3 t4 t5 : Int32) : Int32 := own_up x2 1 (own_v3_65 x0 x1 x2 t0 t1 t2 t3 t4 t5) t1
def own_v3_68 (x0 x1 x2 t0 t1 t2 t3 t4 t5 : Int32) : Int32 := own_up x2 2 (own_v3_65 x0 x1 x2 t0 t1 t2 t3 t4 t5) t2
def own_v3_69 (x0 x1 x2 t0 t1 t2 t3 t4 t5 : Int32) : Int32 := own_up x2 3 (own_v3_65 x0 x1 x2 t0 t1 t2 t3 t4 t5) t3
def own_v3_70 (x0 x1 x2 t0 t1 t2 t3 t4 t5 : Int32) : Int32 := own_up x2 4 (own_v3_65 x0 x1 x2 t0 t1 t2 t3 t4 t5) t4
def own_v3_71 (x0 x1 x2 t0 t1 t2 t3 t4 t5 : Int32) : Int32 := own_up x2 5 (own_v3_65 x0 x1 x2 t0 t1 t2 t3 t4 t5) t5
def own_v3_72 (x0 x1 x2 t0 t1 t2 t3 t4 t5 : Int32) : Int32 := own_cat6 (own_v3_66 x0 x1 x2 t0 t1 t2 t3 t4 t5) (own_v3_67 x0 x1 x2 t0 t1 t2 t3 t4 t5) (own_v3_68 x0 x1 x2 t0 t1 t2 t3 t4 t5) (own_v3_69 x0 x1 x2 t0 t1 t2 t3 t4 t5) (own_v3_70 x0 x1 x2 t0 t1 t2 t3 t4 t5) (own_v3_71 x0 x1 x2 t0 t1 t2 t3 t4 t5) x0
def own_v3_73 (x0 x1 x2 t0 t1 t2 t3 t4 t5 : Int32) : Int32 := own_up x1 0 (own_v3_72 x0 x1 x2 t0 t1 t2 t3 t4 t5) (own_v3_66 x0 x1 x2 t0 t1 t2 t3 t4 t5)
def own_v3_74 (x0 x1 x2 t0 t1 t2 t3 t4 t5 : Int32) : Int32 := own_up x1 1 (own_v3_72 x0 x1 x2 t0 t1 t2 t3 t4 t5) (own_v3_67 x0 x1 x2 t0 t1 t2 t3 t4 t5)
def own_v3_75 (x0 x1 x2 t0 t1 t2 t3 t4 t5 : Int32) : Int32 := own_up x1 2 (own_v3_72 x0 x1 x2 t0 t1 t2 t3 t4 t5) (own_v3_68 x0 x1 x2 t0 t1 t2 t3 t4 t5)
def own_v3_76 (x0 x1 x2 t0 t1 t2 t3 t4 t5 : Int32) : Int32 := own_up x1 3 (own_v3_72 x0 x1 x2 t0 t1 t2 t3 t4 t5) (own_v3_69 x0 x1 x2 t0 t1 t2 t3 t4 t5)
def own_v3_77 (x0 x1 x2 t0 t1 t2 t3 t4 t5 : Int32) : Int32 := own_up x1 4 (own_v3_72 x0 x1 x2 t0 t1 t2 t3 t4 t5) (own_v3_70 x0 x1 x2 t0 t1 t2 t3 t4 t5)
def own_v3_78 (x0 x1 x2 t0 t1 t2 t3 t4 t5 : Int32) : Int32 := own_up x1 5 (own_v3_72 x0 x1 x2 t0 t1 t2 t3 t4 t5) (own_v3_71 x0 x1 x2 t0 t1 t2 t3 t4 t5)
def own_v3_79 (x0 x1 x2 t0 t1 t2 t3 t4 t5 : Int32) : Int32 := own_up x0 0 (own_v3_64 x0 x1 x2 t0 t1 t2 t3 t4 t5) (own_v3_73 x0 x1 x2 t0 t1 t2 t3 t4 t5)
def own_v3_80 (x0 x1 x2 t0 t1 t2 t3 t4 t5 : Int32) : Int32 := own_up x0 1 (own_v3_64 x0 x1 x2 t0 t1 t2 t3 t4 t5) (own_v3_74 x0 x1 x2 t0 t1 t2 t3 t4 t5)
def own_v3_81 (x0 x1 x2 t0 t1 t2 t3 t4 t5 : Int32) : Int32 := own_up x0 2 (own_v3_64 x0 x1 x2 t0 t1 t2 t3 t4 t5) (own_v3_75 x0 x1 x2 t0 t1 t2 t3 t4 t5)
def own_v3_82 (x0 x1 x2 t0 t1 t2 t3 t4 t5 : Int32) : Int32 := own_up x0 3 (own_v3_64 x0 x1 x2 t0 t1 t2 t3 t4 t5) (own_v3_76 x0 x1 x2 t0 t1 t2 t3 t4 t5)
def own_v3_83 (x0 x1 x2 t0 t1 t2 t3 t4 t5 : Int32) : Int32 := own_up x0 4 (own_v3_64 x0 x1 x2 t0 t1 t2 t3 t4 t5) (own_v3_77 x0 x1 x2 t0 t1 t2 t3 t4 t5)
def own_v3_84 (x0 x1 x2 t0 t1 t2 t3 t4 t5 : Int32) : Int32 := own_up x0 5 (own_v3_64 x0 x1 x2 t0 t1 t2 t3 t4 t5) (own_v3_78 x0 x1 x2 t0 t1 t2 t3 t4 t5)

def own_Q2_3 (Z : State) (a1 : Addr) (a2 : Addr) (t0 : Int32) (t1 : Int32) (t2 : Int32) (t3 : Int32) (t4 : Int32) (t5 : Int32) (x0 : Int32) (x1 : Int32) (x2 : Int32) (h0 : Heap) (n0 : Nat) (v : Option Value) (h : Heap) (L : List Loc) : Prop := v = none ∧ Fr n0 L ∧ Keep h0 h [a1] ∧ own_A Z h a1 .int [.int (own_v3_58 x0 x1 x2 t0 t1 t2 t3 t4 t5), .int (own_v3_59 x0 x1 x2 t0 t1 t2 t3 t4 t5), .int (own_v3_60 x0 x1 x2 t0 t1 t2 t3 t4 t5), .int (own_v3_61 x0 x1 x2 t0 t1 t2 t3 t4 t5), .int (own_v3_62 x0 x1 x2 t0 t1 t2 t3 t4 t5), .int (own_v3_63 x0 x1 x2 t0 t1 t2 t3 t4 t5)] ∧ own_A Z h a2 .int [.int x0, .int x1, .int x2]
set_option maxRecDepth 65536 in
set_option maxHeartbeats 40000000 in
theorem rm2_3 (l : Launch) (Z : State) (a0 : Array Value) (hw : ∀ d ∈ tables_1, d.before a0 Z = true) (ws : List Jvm.Cond) (a1 : Addr) (a2 : Addr) (t0 : Int32) (t1 : Int32) (t2 : Int32) (t3 : Int32) (t4 : Int32) (t5 : Int32) (x0 : Int32) (x1 : Int32) (x2 : Int32) (h0 : Heap) (n0 : Nat) (V0p : own_A Z h0 a1 .int [.int t0, .int t1, .int t2, .int t3, .int t4, .int t5]) (V1p : own_A Z h0 a2 .int [.int x0, .int x1, .int x2]) (G_a1 : n0 ≤ a1) (ne_a2_a1 : a2 ≠ a1) (hS : own_S3 x0 x1 x2) :
    MetFree l (⟨"com/example/tourloom/tourloom/GeneticOperators", "shiftRound", "([I[I)V"⟩ : MethodName) (head1 (Jvm.Cond.code (⟨"com/example/tourloom/tourloom/GeneticOperators", "shiftRound", "([I[I)V"⟩ : MethodName) prog_15_method_6_code 4 none :: ws) ({ frames := 0, cells := 0, slots := 0, locals := 0 } : Room)) (fun a U => a = #[.ref a1, .ref a2] ∧ Z.Warmed39 U.vm ∧ U.heap = h0) (fun _ _ _ _ _ => True) (fun _ U o U' => ∃ v L, o = .returned v ∧ own_Q2_3 Z a1 a2 t0 t1 t2 t3 t4 t5 x0 x1 x2 h0 n0 v U'.heap L ∧ FrameEnd U o U' L ({ frames := 0, cells := 0, slots := 0, locals := 0 } : Room).cells ({ frames := 0, cells := 0, slots := 0, locals := 0 } : Room).slots) := by
  refine MetFree.of_bodySF (plainFor_of_name own_pn2) hisR ?_
  intro p e s m args below meth c s₁ Bd hml0 hP hK
  obtain ⟨rfl, hZ, hh⟩ := hP
  have hx := Bd.exec
  have hby := Bd.bytes
  have hml : c.maxLocals = 4 := hml0
  have hown : s.vm.findClass "com/example/tourloom/tourloom/GeneticOperators" = some m.cls := findClass_of_methodNamed Bd.named
  have hnm := (name_of_methodNamed Bd.named Bd.method).1
  have hlk : meth.locks = false := BodyLoose.notSynchronized Bd
  have X0 : Stand p l e ({ frames := 0, cells := 0, slots := 0, locals := 0 } : Room) s m #[.ref a1, .ref a2] below meth c s₁ [] 0 0 := Stand.of_body Bd
  have e0 : s₁.heap = h0 := by rw [← hh, Bd.state]; rfl
  have N0 := Fr.nil n0
  have K0 := Keep.refl h0 [a1]
  show own_Go p e below (own_E s 0 0 (own_Q2_3 Z a1 a2 t0 t1 t2 t3 t4 t5 x0 x1 x2 h0 n0)) (s₁.setTop (entryFrame m #[.ref a1, .ref a2] 4))
  rw [own_ef2]
  refine own_aloadN X0 hx (hb hby own_d2_0) (q := 1) rfl rfl rfl ?_
  refine own_aloadN X0 hx (hb hby own_d2_1) (q := 2) rfl rfl rfl ?_
  refine own_aloadN X0 hx (hb hby own_d2_2) (q := 3) rfl rfl rfl ?_
  refine own_alen X0 hx hZ (n := (3 : Int32)) e0 V1p rfl (hb hby own_d2_3) (q := 4) rfl ?_
  refine own_iconst X0 hx (v := (1 : Int32)) (hb hby own_d2_4) (q := 5) rfl rfl ?_
  refine own_isub X0 hx (hb hby own_d2_5) (q := 6) rfl ?_
  rw [show ((3 : Int32) - (1 : Int32) : Int32) = (2 : Int32) from by decide]
  refine own_iaload X0 hx hZ (i := 2) (v := .int x2) e0 V1p (by decide) (by decide) rfl (hb hby own_d2_6) (q := 7) rfl ?_
  refine own_iaload X0 hx hZ (i := (x2).toNatClampNeg) (v := .int (own_v3_64 x0 x1 x2 t0 t1 t2 t3 t4 t5)) e0 V0p (own_nn6 (own_S3_2 hS)) rfl (own_cat6V (own_S3_2 hS)) (hb hby own_d2_7) (q := 8) rfl ?_
  refine own_istoreN (L' := #[.val (.ref a1), .val (.ref a2), .val (.int (own_v3_64 x0 x1 x2 t0 t1 t2 t3 t4 t5)), .unset]) X0 hx (hb hby own_d2_8) (q := 9) rfl rfl ?_
  refine own_aloadN X0 hx (hb hby own_d2_9) (q := 10) rfl rfl rfl ?_
  refine own_alen X0 hx hZ (n := (3 : Int32)) e0 V1p rfl (hb hby own_d2_10) (q := 11) rfl ?_
  refine own_iconst X0 hx (v := (1 : Int32)) (hb hby own_d2_11) (q := 12) rfl rfl ?_
  refine own_isub X0 hx (hb hby own_d2_12) (q := 13) rfl ?_
  rw [show ((3 : Int32) - (1 : Int32) : Int32) = (2 : Int32) from by decide]
  refine own_istoreN (L' := #[.val (.ref a1), .val (.ref a2), .val (.int (own_v3_64 x0 x1 x2 t0 t1 t2 t3 t4 t5)), .val (.int (2 : Int32))]) X0 hx (hb hby own_d2_13) (q := 14) rfl rfl ?_
  refine own_iloadN X0 hx (hb hby own_d2_14) (q := 15) rfl rfl ?_
  refine own_if0M X0 hx (hb hby own_d2_15) (cd := .le) (x := (2 : Int32)) (pt := 36) (q := 18) (by decide) (by decide) rfl rfl (fun h => False.elim (h ((by decide) : (0 : Int32) < (2 : Int32)))) (fun _ => ?_)
  refine own_aloadN X0 hx (hb hby own_d2_18) (q := 19) rfl rfl rfl ?_
  refine own_aloadN X0 hx (hb hby own_d2_19) (q := 20) rfl rfl rfl ?_
  refine own_iloadN X0 hx (hb hby own_d2_20) (q := 21) rfl rfl ?_
  refine own_iaload X0 hx hZ (i := 2) (v := .int x2) e0 V1p (by decide) (by decide) rfl (hb hby own_d2_21) (q := 22) rfl ?_
  refine own_aloadN X0 hx (hb hby own_d2_22) (q := 23) rfl rfl rfl ?_
  refine own_aloadN X0 hx (hb hby own_d2_23) (q := 24) rfl rfl rfl ?_
  refine own_iloadN X0 hx (hb hby own_d2_24) (q := 25) rfl rfl ?_
  refine own_iconst X0 hx (v := (1 : Int32)) (hb hby own_d2_25) (q := 26) rfl rfl ?_
  refine own_isub X0 hx (hb hby own_d2_26) (q := 27) rfl ?_
  rw [show ((2 : Int32) - (1 : Int32) : Int32) = (1 : Int32) from by decide]
  refine own_iaload X0 hx hZ (i := 1) (v := .int x1) e0 V1p (by decide) (by decide) rfl (hb hby own_d2_27) (q := 28) rfl ?_
  refine own_iaload X0 hx hZ (i := (x1).toNatClampNeg) (v := .int (own_v3_65 x0 x1 x2 t0 t1 t2 t3 t4 t5)) e0 V0p (own_nn6 (own_S3_1 hS)) rfl (own_cat6V (own_S3_1 hS)) (hb hby own_d2_28) (q := 29) rfl ?_
  refine own_iastore X0 hx hZ (i := (x2).toNatClampNeg) e0 V0p (own_nn6 (own_S3_2 hS)) rfl (own_lt6 (own_S3_2 hS)) (hb hby own_d2_29) (q := 30) rfl (fun T130 h133 X131 e132 W134 A135 => ?_)
  replace A135 : own_A Z h133 a1 .int [.int (own_v3_66 x0 x1 x2 t0 t1 t2 t3 t4 t5), .int (own_v3_67 x0 x1 x2 t0 t1 t2 t3 t4 t5), .int (own_v3_68 x0 x1 x2 t0 t1 t2 t3 t4 t5), .int (own_v3_69 x0 x1 x2 t0 t1 t2 t3 t4 t5), .int (own_v3_70 x0 x1 x2 t0 t1 t2 t3 t4 t5), .int (own_v3_71 x0 x1 x2 t0 t1 t2 t3 t4 t5)] := by rw [own_set6 (own_S3_2 hS)] at A135; exact A135
  have V136 := V1p.other W134 ne_a2_a1
  have K137 := K0.wr W134 (Or.inl (List.mem_of_getElem? (i := 0) rfl))
  have N138 := Fr.snoc X131 N0 G_a1
  refine own_iinc (L' := #[.val (.ref a1), .val (.ref a2), .val (.int (own_v3_64 x0 x1 x2 t0 t1 t2 t3 t4 t5)), .val (.int ((2 : Int32) + (-1 : Int32)))]) X131 hx (v := (-1 : Int32)) (hb hby own_d2_30) (q := 33) rfl rfl rfl rfl ?_
  rw [show ((2 : Int32) + (-1 : Int32) : Int32) = (1 : Int32) from by decide]
  refine own_goto X131 hx (hb hby own_d2_33) (q := 14) (by decide) (by decide) ?_
  refine own_iloadN X131 hx (hb hby own_d2_14) (q := 15) rfl rfl ?_
  refine own_if0M X131 hx (hb hby own_d2_15) (cd := .le) (x := (1 : Int32)) (pt := 36) (q := 18) (by decide) (by decide) rfl rfl (fun h => False.elim (h ((by decide) : (0 : Int32) < (1 : Int32)))) (fun _ => ?_)
  refine own_aloadN X131 hx (hb hby own_d2_18) (q := 19) rfl rfl rfl ?_
  refine own_aloadN X131 hx (hb hby own_d2_19) (q := 20) rfl rfl rfl ?_
  refine own_iloadN X131 hx (hb hby own_d2_20) (q := 21) rfl rfl ?_
  refine own_iaload X131 hx hZ (i := 1) (v := .int x1) e132 V136 (by decide) (by decide) rfl (hb hby own_d2_21) (q := 22) rfl ?_
  refine own_aloadN X131 hx (hb hby own_d2_22) (q := 23) rfl rfl rfl ?_
  refine own_aloadN X131 hx (hb hby own_d2_23) (q := 24) rfl rfl rfl ?_
  refine own_iloadN X131 hx (hb hby own_d2_24) (q := 25) rfl rfl ?_
  refine own_iconst X131 hx (v := (1 : Int32)) (hb hby own_d2_25) (q := 26) rfl rfl ?_
  refine own_isub X131 hx (hb hby own_d2_26) (q := 27) rfl ?_
  rw [show ((1 : Int32) - (1 : Int32) : Int32) = (0 : Int32) from by decide]
  refine own_iaload X131 hx hZ (i := 0) (v := .int x0) e132 V136 (by decide) (by decide) rfl (hb hby own_d2_27) (q := 28) rfl ?_
  refine own_iaload X131 hx hZ (i := (x0).toNatClampNeg) (v := .int (own_v3_72 x0 x1 x2 t0 t1 t2 t3 t4 t5)) e132 A135 (own_nn6 (own_S3_0 hS)) rfl (own_cat6V (own_S3_0 hS)) (hb hby own_d2_28) (q := 29) rfl ?_
  refine own_iastore X131 hx hZ (i := (x1).toNatClampNeg) e132 A135 (own_nn6 (own_S3_1 hS)) rfl (own_lt6 (own_S3_1 hS)) (hb hby own_d2_29) (q := 30) rfl (fun T139 h142 X140 e141 W143 A144 => ?_)
  replace A144 : own_A Z h142 a1 .int [.int (own_v3_73 x0 x1 x2 t0 t1 t2 t3 t4 t5), .int (own_v3_74 x0 x1 x2 t0 t1 t2 t3 t4 t5), .int (own_v3_75 x0 x1 x2 t0 t1 t2 t3 t4 t5), .int (own_v3_76 x0 x1 x2 t0 t1 t2 t3 t4 t5), .int (own_v3_77 x0 x1 x2 t0 t1 t2 t3 t4 t5), .int (own_v3_78 x0 x1 x2 t0 t1 t2 t3 t4 t5)] := by rw [own_set6 (own_S3_1 hS)] at A144; exact A144
  have V145 := V136.other W143 ne_a2_a1
  have K146 := K137.wr W143 (Or.inl (List.mem_of_getElem? (i := 0) rfl))
  have N147 := Fr.snoc X140 N138 G_a1
  refine own_iinc (L' := #[.val (.ref a1), .val (.ref a2), .val (.int (own_v3_64 x0 x1 x2 t0 t1 t2 t3 t4 t5)), .val (.int ((1 : Int32) + (-1 : Int32)))]) X140 hx (v := (-1 : Int32)) (hb hby own_d2_30) (q := 33) rfl rfl rfl rfl ?_
  rw [show ((1 : Int32) + (-1 : Int32) : Int32) = (0 : Int32) from by decide]
  refine own_goto X140 hx (hb hby own_d2_33) (q := 14) (by decide) (by decide) ?_
  refine own_iloadN X140 hx (hb hby own_d2_14) (q := 15) rfl rfl ?_
  refine own_if0M X140 hx (hb hby own_d2_15) (cd := .le) (x := (0 : Int32)) (pt := 36) (q := 18) (by decide) (by decide) rfl rfl (fun _ => ?_) (fun h => False.elim (((by decide) : ¬ ((0 : Int32) < (0 : Int32))) h))
  refine own_aloadN X140 hx (hb hby own_d2_36) (q := 37) rfl rfl rfl ?_
  refine own_aloadN X140 hx (hb hby own_d2_37) (q := 38) rfl rfl rfl ?_
  refine own_iconst X140 hx (v := (0 : Int32)) (hb hby own_d2_38) (q := 39) rfl rfl ?_
  refine own_iaload X140 hx hZ (i := 0) (v := .int x0) e141 V145 (by decide) (by decide) rfl (hb hby own_d2_39) (q := 40) rfl ?_
  refine own_iloadN X140 hx (hb hby own_d2_40) (q := 41) rfl rfl ?_
  refine own_iastore X140 hx hZ (i := (x0).toNatClampNeg) e141 A144 (own_nn6 (own_S3_0 hS)) rfl (own_lt6 (own_S3_0 hS)) (hb hby own_d2_41) (q := 42) rfl (fun T148 h151 X149 e150 W152 A153 => ?_)
  replace A153 : own_A Z h151 a1 .int [.int (own_v3_79 x0 x1 x2 t0 t1 t2 t3 t4 t5), .int (own_v3_80 x0 x1 x2 t0 t1 t2 t3 t4 t5), .int (own_v3_81 x0 x1 x2 t0 t1 t2 t3 t4 t5), .int (own_v3_82 x0 x1 x2 t0 t1 t2 t3 t4 t5), .int (own_v3_83 x0 x1 x2 t0 t1 t2 t3 t4 t5), .int (own_v3_84 x0 x1 x2 t0 t1 t2 t3 t4 t5)] := by rw [own_set6 (own_S3_0 hS)] at A153; exact A153
  have V154 := V145.other W152 ne_a2_a1
  have K155 := K146.wr W152 (Or.inl (List.mem_of_getElem? (i := 0) rfl))
  have N156 := Fr.snoc X149 N147 G_a1
  refine own_retV X149 hx hlk (rest := []) Bd.returns (hb hby own_d2_42) ?_ (by decide) (by decide)
  show own_Q2_3 Z a1 a2 t0 t1 t2 t3 t4 t5 x0 x1 x2 h0 n0 _ T148.heap _
  rw [e150]
  exact ⟨rfl, N156, K155, A153, V154⟩
theorem own_ef3_k3 (m : MethodId) (a1 : Addr) (a2 : Addr) : entryFrame m #[.ref a1, .ref a2, .int (3 : Int32)] 4 = mkF m 0 #[.val (.ref a1), .val (.ref a2), .val (.int (3 : Int32)), .unset] [] := by first | (simp [entryFrame, mkF, argsToLocals, Value.category]; done) | rfl
theorem own_d3_69 : decode method_4_code 69 = .ok (.aload_n 0, 1) := by decide +kernel
theorem own_d3_70 : decode method_4_code 70 = .ok (.iconst 2, 1) := by decide +kernel
theorem own_d3_71 : decode method_4_code 71 = .ok (.iaload, 1) := by decide +kernel
theorem own_d3_72 : decode method_4_code 72 = .ok (.aload_n 1, 1) := by decide +kernel
theorem own_d3_73 : decode method_4_code 73 = .ok (.iconst 2, 1) := by decide +kernel
theorem own_d3_74 : decode method_4_code 74 = .ok (.iaload, 1) := by decide +kernel
theorem own_d3_75 : decode method_4_code 75 = .ok (.if_icmp .ne 7, 3) := by decide +kernel
theorem own_d3_78 : decode method_4_code 78 = .ok (.iconst 1, 1) := by decide +kernel
theorem own_d3_79 : decode method_4_code 79 = .ok (.goto 4, 3) := by decide +kernel
theorem own_d3_83 : decode method_4_code 83 = .ok (.istore_n 3, 1) := by decide +kernel
def own_f3_3 (x0 : Int32) (x1 : Int32) (x2 : Int32) : Int32 := (1 : Int32)
set_option maxRecDepth 65536 in
set_option maxHeartbeats 40000000 in
theorem rm3_3 (l : Launch) (Z : State) (a0 : Array Value) (hw : ∀ d ∈ tables_1, d.before a0 Z = true) (ws : List Jvm.Cond) (a1 : Addr) (a2 : Addr) (x0 : Int32) (x1 : Int32) (x2 : Int32) (h0 : Heap) (V0p : own_A Z h0 a1 .int [.int x0, .int x1, .int x2]) (V1p : own_A Z h0 a2 .int [.int x0, .int x1, .int x2, .int (0 : Int32), .int (0 : Int32), .int (0 : Int32)]) :
    MetFree l (⟨"com/example/tourloom/tourloom/GeneticOperatorsShiftRoundPinLaw", "risingKept", "([I[II)Z"⟩ : MethodName) (head1 (Jvm.Cond.code (⟨"com/example/tourloom/tourloom/GeneticOperatorsShiftRoundPinLaw", "risingKept", "([I[II)Z"⟩ : MethodName) method_4_code 4 (some .boolean) :: ws) ({ frames := 0, cells := 0, slots := 0, locals := 0 } : Room)) (fun a U => a = #[.ref a1, .ref a2, .int (3 : Int32)] ∧ Z.Warmed39 U.vm ∧ U.heap = h0) (fun _ _ _ _ _ => True) (fun _ U o U' => ∃ v L, o = .returned v ∧ own_P (.int (own_f3_3 x0 x1 x2)) h0 v U'.heap L ∧ FrameEnd U o U' L ({ frames := 0, cells := 0, slots := 0, locals := 0 } : Room).cells ({ frames := 0, cells := 0, slots := 0, locals := 0 } : Room).slots) := by
  refine MetFree.of_bodySF (plainFor_of_name own_pn0) hisR ?_
  intro p e s m args below meth c s₁ Bd hml0 hP hK
  obtain ⟨rfl, hZ, hh⟩ := hP
  have hx := Bd.exec
  have hby := Bd.bytes
  have hml : c.maxLocals = 4 := hml0
  have hown : s.vm.findClass "com/example/tourloom/tourloom/GeneticOperatorsShiftRoundPinLaw" = some m.cls := findClass_of_methodNamed Bd.named
  have hnm := (name_of_methodNamed Bd.named Bd.method).1
  have hlk : meth.locks = false := BodyLoose.notSynchronized Bd
  have X0 : Stand p l e ({ frames := 0, cells := 0, slots := 0, locals := 0 } : Room) s m #[.ref a1, .ref a2, .int (3 : Int32)] below meth c s₁ [] 0 0 := Stand.of_body Bd
  have e0 : s₁.heap = h0 := by rw [← hh, Bd.state]; rfl
  show own_Go p e below (own_E s 0 0 (own_P (.int (own_f3_3 x0 x1 x2)) h0)) (s₁.setTop (entryFrame m #[.ref a1, .ref a2, .int (3 : Int32)] 4))
  rw [own_ef3_k3]
  refine own_aloadN X0 hx (hb hby own_d3_0) (q := 1) rfl rfl rfl ?_
  refine own_alen X0 hx hZ (n := (3 : Int32)) e0 V0p rfl (hb hby own_d3_1) (q := 2) rfl ?_
  refine own_iloadN X0 hx (hb hby own_d3_2) (q := 3) rfl rfl ?_
  refine own_icmpM X0 hx (hb hby own_d3_3) (cd := .ne) (x := (3 : Int32)) (y := (3 : Int32)) (pt := 10) (q := 6) (by decide) (by decide) rfl rfl (fun h => False.elim (h ((by decide) : (3 : Int32) = (3 : Int32)))) (fun _ => ?_)
  refine own_iconst X0 hx (v := (1 : Int32)) (hb hby own_d3_6) (q := 7) rfl rfl ?_
  refine own_goto X0 hx (hb hby own_d3_7) (q := 11) (by decide) (by decide) ?_
  refine own_istoreN (L' := #[.val (.ref a1), .val (.ref a2), .val (.int (3 : Int32)), .val (.int (1 : Int32))]) X0 hx (hb hby own_d3_11) (q := 12) rfl rfl ?_
  refine own_iloadN X0 hx (hb hby own_d3_12) (q := 13) rfl rfl ?_
  refine own_if0P X0 hx (hb hby own_d3_13) (cd := .eq) (x := (1 : Int32)) (pt := 36) (q := 16) (by decide) (by decide) rfl rfl (fun h => False.elim (((by decide) : ¬ ((1 : Int32) = (0 : Int32))) h)) (fun _ => ?_)
  refine own_iloadN X0 hx (hb hby own_d3_16) (q := 17) rfl rfl ?_
  refine own_iconst X0 hx (v := (1 : Int32)) (hb hby own_d3_17) (q := 18) rfl rfl ?_
  refine own_icmpP X0 hx (hb hby own_d3_18) (cd := .lt) (x := (3 : Int32)) (y := (1 : Int32)) (pt := 36) (q := 21) (by decide) (by decide) rfl rfl (fun h => False.elim (((by decide) : ¬ ((3 : Int32) < (1 : Int32))) h)) (fun _ => ?_)
  refine own_aloadN X0 hx (hb hby own_d3_21) (q := 22) rfl rfl rfl ?_
  refine own_iconst X0 hx (v := (0 : Int32)) (hb hby own_d3_22) (q := 23) rfl rfl ?_
  refine own_iaload X0 hx hZ (i := 0) (v := .int x0) e0 V0p (by decide) (by decide) rfl (hb hby own_d3_23) (q := 24) rfl ?_
  refine own_aloadN X0 hx (hb hby own_d3_24) (q := 25) rfl rfl rfl ?_
  refine own_iconst X0 hx (v := (0 : Int32)) (hb hby own_d3_25) (q := 26) rfl rfl ?_
  refine own_iaload X0 hx hZ (i := 0) (v := .int x0) e0 V1p (by decide) (by decide) rfl (hb hby own_d3_26) (q := 27) rfl ?_
  refine own_icmpM X0 hx (hb hby own_d3_27) (cd := .ne) (x := x0) (y := x0) (pt := 34) (q := 30) (by decide) (by decide) rfl rfl (fun h => False.elim (h (rfl : x0 = x0))) (fun _ => ?_)
  refine own_iconst X0 hx (v := (1 : Int32)) (hb hby own_d3_30) (q := 31) rfl rfl ?_
  refine own_goto X0 hx (hb hby own_d3_31) (q := 35) (by decide) (by decide) ?_
  refine own_istoreN (L' := #[.val (.ref a1), .val (.ref a2), .val (.int (3 : Int32)), .val (.int (1 : Int32))]) X0 hx (hb hby own_d3_35) (q := 36) rfl rfl ?_
  refine own_iloadN X0 hx (hb hby own_d3_36) (q := 37) rfl rfl ?_
  refine own_if0P X0 hx (hb hby own_d3_37) (cd := .eq) (x := (1 : Int32)) (pt := 60) (q := 40) (by decide) (by decide) rfl rfl (fun h => False.elim (((by decide) : ¬ ((1 : Int32) = (0 : Int32))) h)) (fun _ => ?_)
  refine own_iloadN X0 hx (hb hby own_d3_40) (q := 41) rfl rfl ?_
  refine own_iconst X0 hx (v := (2 : Int32)) (hb hby own_d3_41) (q := 42) rfl rfl ?_
  refine own_icmpP X0 hx (hb hby own_d3_42) (cd := .lt) (x := (3 : Int32)) (y := (2 : Int32)) (pt := 60) (q := 45) (by decide) (by decide) rfl rfl (fun h => False.elim (((by decide) : ¬ ((3 : Int32) < (2 : Int32))) h)) (fun _ => ?_)
  refine own_aloadN X0 hx (hb hby own_d3_45) (q := 46) rfl rfl rfl ?_
  refine own_iconst X0 hx (v := (1 : Int32)) (hb hby own_d3_46) (q := 47) rfl rfl ?_
  refine own_iaload X0 hx hZ (i := 1) (v := .int x1) e0 V0p (by decide) (by decide) rfl (hb hby own_d3_47) (q := 48) rfl ?_
  refine own_aloadN X0 hx (hb hby own_d3_48) (q := 49) rfl rfl rfl ?_
  refine own_iconst X0 hx (v := (1 : Int32)) (hb hby own_d3_49) (q := 50) rfl rfl ?_
  refine own_iaload X0 hx hZ (i := 1) (v := .int x1) e0 V1p (by decide) (by decide) rfl (hb hby own_d3_50) (q := 51) rfl ?_
  refine own_icmpM X0 hx (hb hby own_d3_51) (cd := .ne) (x := x1) (y := x1) (pt := 58) (q := 54) (by decide) (by decide) rfl rfl (fun h => False.elim (h (rfl : x1 = x1))) (fun _ => ?_)
  refine own_iconst X0 hx (v := (1 : Int32)) (hb hby own_d3_54) (q := 55) rfl rfl ?_
  refine own_goto X0 hx (hb hby own_d3_55) (q := 59) (by decide) (by decide) ?_
  refine own_istoreN (L' := #[.val (.ref a1), .val (.ref a2), .val (.int (3 : Int32)), .val (.int (1 : Int32))]) X0 hx (hb hby own_d3_59) (q := 60) rfl rfl ?_
  refine own_iloadN X0 hx (hb hby own_d3_60) (q := 61) rfl rfl ?_
  refine own_if0P X0 hx (hb hby own_d3_61) (cd := .eq) (x := (1 : Int32)) (pt := 84) (q := 64) (by decide) (by decide) rfl rfl (fun h => False.elim (((by decide) : ¬ ((1 : Int32) = (0 : Int32))) h)) (fun _ => ?_)
  refine own_iloadN X0 hx (hb hby own_d3_64) (q := 65) rfl rfl ?_
  refine own_iconst X0 hx (v := (3 : Int32)) (hb hby own_d3_65) (q := 66) rfl rfl ?_
  refine own_icmpP X0 hx (hb hby own_d3_66) (cd := .lt) (x := (3 : Int32)) (y := (3 : Int32)) (pt := 84) (q := 69) (by decide) (by decide) rfl rfl (fun h => False.elim (((by decide) : ¬ ((3 : Int32) < (3 : Int32))) h)) (fun _ => ?_)
  refine own_aloadN X0 hx (hb hby own_d3_69) (q := 70) rfl rfl rfl ?_
  refine own_iconst X0 hx (v := (2 : Int32)) (hb hby own_d3_70) (q := 71) rfl rfl ?_
  refine own_iaload X0 hx hZ (i := 2) (v := .int x2) e0 V0p (by decide) (by decide) rfl (hb hby own_d3_71) (q := 72) rfl ?_
  refine own_aloadN X0 hx (hb hby own_d3_72) (q := 73) rfl rfl rfl ?_
  refine own_iconst X0 hx (v := (2 : Int32)) (hb hby own_d3_73) (q := 74) rfl rfl ?_
  refine own_iaload X0 hx hZ (i := 2) (v := .int x2) e0 V1p (by decide) (by decide) rfl (hb hby own_d3_74) (q := 75) rfl ?_
  refine own_icmpM X0 hx (hb hby own_d3_75) (cd := .ne) (x := x2) (y := x2) (pt := 82) (q := 78) (by decide) (by decide) rfl rfl (fun h => False.elim (h (rfl : x2 = x2))) (fun _ => ?_)
  refine own_iconst X0 hx (v := (1 : Int32)) (hb hby own_d3_78) (q := 79) rfl rfl ?_
  refine own_goto X0 hx (hb hby own_d3_79) (q := 83) (by decide) (by decide) ?_
  refine own_istoreN (L' := #[.val (.ref a1), .val (.ref a2), .val (.int (3 : Int32)), .val (.int (1 : Int32))]) X0 hx (hb hby own_d3_83) (q := 84) rfl rfl ?_
  refine own_iloadN X0 hx (hb hby own_d3_84) (q := 85) rfl rfl ?_
  refine own_if0P X0 hx (hb hby own_d3_85) (cd := .eq) (x := (1 : Int32)) (pt := 108) (q := 88) (by decide) (by decide) rfl rfl (fun h => False.elim (((by decide) : ¬ ((1 : Int32) = (0 : Int32))) h)) (fun _ => ?_)
  refine own_iloadN X0 hx (hb hby own_d3_88) (q := 89) rfl rfl ?_
  refine own_iconst X0 hx (v := (4 : Int32)) (hb hby own_d3_89) (q := 90) rfl rfl ?_
  refine own_icmpP X0 hx (hb hby own_d3_90) (cd := .lt) (x := (3 : Int32)) (y := (4 : Int32)) (pt := 108) (q := 93) (by decide) (by decide) rfl rfl (fun _ => ?_) (fun h => False.elim (h ((by decide) : (3 : Int32) < (4 : Int32))))
  refine own_iloadN X0 hx (hb hby own_d3_108) (q := 109) rfl rfl ?_
  refine own_if0P X0 hx (hb hby own_d3_109) (cd := .eq) (x := (1 : Int32)) (pt := 132) (q := 112) (by decide) (by decide) rfl rfl (fun h => False.elim (((by decide) : ¬ ((1 : Int32) = (0 : Int32))) h)) (fun _ => ?_)
  refine own_iloadN X0 hx (hb hby own_d3_112) (q := 113) rfl rfl ?_
  refine own_iconst X0 hx (v := (5 : Int32)) (hb hby own_d3_113) (q := 114) rfl rfl ?_
  refine own_icmpP X0 hx (hb hby own_d3_114) (cd := .lt) (x := (3 : Int32)) (y := (5 : Int32)) (pt := 132) (q := 117) (by decide) (by decide) rfl rfl (fun _ => ?_) (fun h => False.elim (h ((by decide) : (3 : Int32) < (5 : Int32))))
  refine own_iloadN X0 hx (hb hby own_d3_132) (q := 133) rfl rfl ?_
  refine own_if0P X0 hx (hb hby own_d3_133) (cd := .eq) (x := (1 : Int32)) (pt := 157) (q := 136) (by decide) (by decide) rfl rfl (fun h => False.elim (((by decide) : ¬ ((1 : Int32) = (0 : Int32))) h)) (fun _ => ?_)
  refine own_iloadN X0 hx (hb hby own_d3_136) (q := 137) rfl rfl ?_
  refine own_bipush X0 hx (v := (6 : Int32)) (hb hby own_d3_137) (q := 139) rfl rfl ?_
  refine own_icmpP X0 hx (hb hby own_d3_139) (cd := .lt) (x := (3 : Int32)) (y := (6 : Int32)) (pt := 157) (q := 142) (by decide) (by decide) rfl rfl (fun _ => ?_) (fun h => False.elim (h ((by decide) : (3 : Int32) < (6 : Int32))))
  refine own_iloadN X0 hx (hb hby own_d3_157) (q := 158) rfl rfl ?_
  refine own_retN X0 hx hlk (t := .boolean) (by simp) Bd.returns (hb hby own_d3_158) ?_ (by decide) (by decide)
  have r : own_f3_3 x0 x1 x2 = (1 : Int32) := by rw [own_f3_3]
  exact ⟨by rw [r] <;> rfl, e0, rfl⟩
theorem own_ef1_k4 (m : MethodId) (a1 : Addr) : entryFrame m #[.ref a1, .int (4 : Int32)] 2 = mkF m 0 #[.val (.ref a1), .val (.int (4 : Int32))] [] := by first | (simp [entryFrame, mkF, argsToLocals, Value.category]; done) | rfl
theorem own_d1_63 : decode method_3_code 63 = .ok (.iload_n 1, 1) := by decide +kernel
theorem own_d1_64 : decode method_3_code 64 = .ok (.iconst 4, 1) := by decide +kernel
theorem own_d1_65 : decode method_3_code 65 = .ok (.if_icmp .ne 31, 3) := by decide +kernel
theorem own_d1_68 : decode method_3_code 68 = .ok (.iconst 4, 1) := by decide +kernel
theorem own_d1_69 : decode method_3_code 69 = .ok (.newarray .int, 2) := by decide +kernel
theorem own_d1_71 : decode method_3_code 71 = .ok (.dup, 1) := by decide +kernel
theorem own_d1_72 : decode method_3_code 72 = .ok (.iconst 0, 1) := by decide +kernel
theorem own_d1_73 : decode method_3_code 73 = .ok (.aload_n 0, 1) := by decide +kernel
theorem own_d1_74 : decode method_3_code 74 = .ok (.iconst 0, 1) := by decide +kernel
theorem own_d1_75 : decode method_3_code 75 = .ok (.iaload, 1) := by decide +kernel
theorem own_d1_76 : decode method_3_code 76 = .ok (.iastore, 1) := by decide +kernel
theorem own_d1_77 : decode method_3_code 77 = .ok (.dup, 1) := by decide +kernel
theorem own_d1_78 : decode method_3_code 78 = .ok (.iconst 1, 1) := by decide +kernel
theorem own_d1_79 : decode method_3_code 79 = .ok (.aload_n 0, 1) := by decide +kernel
theorem own_d1_80 : decode method_3_code 80 = .ok (.iconst 1, 1) := by decide +kernel
theorem own_d1_81 : decode method_3_code 81 = .ok (.iaload, 1) := by decide +kernel
theorem own_d1_82 : decode method_3_code 82 = .ok (.iastore, 1) := by decide +kernel
theorem own_d1_83 : decode method_3_code 83 = .ok (.dup, 1) := by decide +kernel
theorem own_d1_84 : decode method_3_code 84 = .ok (.iconst 2, 1) := by decide +kernel
theorem own_d1_85 : decode method_3_code 85 = .ok (.aload_n 0, 1) := by decide +kernel
theorem own_d1_86 : decode method_3_code 86 = .ok (.iconst 2, 1) := by decide +kernel
theorem own_d1_87 : decode method_3_code 87 = .ok (.iaload, 1) := by decide +kernel
theorem own_d1_88 : decode method_3_code 88 = .ok (.iastore, 1) := by decide +kernel
theorem own_d1_89 : decode method_3_code 89 = .ok (.dup, 1) := by decide +kernel
theorem own_d1_90 : decode method_3_code 90 = .ok (.iconst 3, 1) := by decide +kernel
theorem own_d1_91 : decode method_3_code 91 = .ok (.aload_n 0, 1) := by decide +kernel
theorem own_d1_92 : decode method_3_code 92 = .ok (.iconst 3, 1) := by decide +kernel
theorem own_d1_93 : decode method_3_code 93 = .ok (.iaload, 1) := by decide +kernel
theorem own_d1_94 : decode method_3_code 94 = .ok (.iastore, 1) := by decide +kernel
theorem own_d1_95 : decode method_3_code 95 = .ok (.areturn, 1) := by decide +kernel
def own_Q1_4 (Z : State) (a1 : Addr) (x0 : Int32) (x1 : Int32) (x2 : Int32) (x3 : Int32) (h0 : Heap) (n0 : Nat) (v : Option Value) (h : Heap) (L : List Loc) : Prop := ∃ ra0 : Addr, v = some (.ref ra0) ∧ Fr n0 L ∧ Keep h0 h [] ∧ h0.size ≤ ra0 ∧ own_A Z h ra0 .int [.int x0, .int x1, .int x2, .int x3]
set_option maxRecDepth 65536 in
set_option maxHeartbeats 40000000 in
theorem rm1_4 (l : Launch) (Z : State) (a0 : Array Value) (hw : ∀ d ∈ tables_1, d.before a0 Z = true) (ws : List Jvm.Cond) (a1 : Addr) (x0 : Int32) (x1 : Int32) (x2 : Int32) (x3 : Int32) (h0 : Heap) (n0 : Nat) (Z0 : n0 ≤ h0.size) (V0p : own_A Z h0 a1 .int [.int x0, .int x1, .int x2, .int x3, .int (0 : Int32), .int (0 : Int32)]) :
    MetFree l (⟨"com/example/tourloom/tourloom/GeneticOperatorsShiftRoundPinLaw", "pick", "([II)[I"⟩ : MethodName) (head1 (Jvm.Cond.code (⟨"com/example/tourloom/tourloom/GeneticOperatorsShiftRoundPinLaw", "pick", "([II)[I"⟩ : MethodName) method_3_code 2 (some (.array .int)) :: ws) ({ frames := 0, cells := 1, slots := 4, locals := 0 } : Room)) (fun a U => a = #[.ref a1, .int (4 : Int32)] ∧ Z.Warmed39 U.vm ∧ U.heap = h0) (fun _ _ _ _ _ => True) (fun _ U o U' => ∃ v L, o = .returned v ∧ own_Q1_4 Z a1 x0 x1 x2 x3 h0 n0 v U'.heap L ∧ FrameEnd U o U' L ({ frames := 0, cells := 1, slots := 4, locals := 0 } : Room).cells ({ frames := 0, cells := 1, slots := 4, locals := 0 } : Room).slots) := by
  refine MetFree.of_bodySF (plainFor_of_name own_pn0) hisR ?_
  intro p e s m args below meth c s₁ Bd hml0 hP hK
  obtain ⟨rfl, hZ, hh⟩ := hP
  have hx := Bd.exec
  have hby := Bd.bytes
  have hml : c.maxLocals = 2 := hml0
  have hown : s.vm.findClass "com/example/tourloom/tourloom/GeneticOperatorsShiftRoundPinLaw" = some m.cls := findClass_of_methodNamed Bd.named
  have hnm := (name_of_methodNamed Bd.named Bd.method).1
  have hlk : meth.locks = false := BodyLoose.notSynchronized Bd
  have X0 : Stand p l e ({ frames := 0, cells := 1, slots := 4, locals := 0 } : Room) s m #[.ref a1, .int (4 : Int32)] below meth c s₁ [] 0 0 := Stand.of_body Bd
  have e0 : s₁.heap = h0 := by rw [← hh, Bd.state]; rfl
  have N0 := Fr.nil n0
  have K0 := Keep.refl h0 []
  show own_Go p e below (own_E s 1 4 (own_Q1_4 Z a1 x0 x1 x2 x3 h0 n0)) (s₁.setTop (entryFrame m #[.ref a1, .int (4 : Int32)] 2))
  rw [own_ef1_k4]
  refine own_iloadN X0 hx (hb hby own_d1_0) (q := 1) rfl rfl ?_
  refine own_iconst X0 hx (v := (1 : Int32)) (hb hby own_d1_1) (q := 2) rfl rfl ?_
  refine own_icmpM X0 hx (hb hby own_d1_2) (cd := .ne) (x := (4 : Int32)) (y := (1 : Int32)) (pt := 15) (q := 5) (by decide) (by decide) rfl rfl (fun _ => ?_) (fun h => False.elim (((by decide) : ¬ ((4 : Int32) = (1 : Int32))) h))
  refine own_iloadN X0 hx (hb hby own_d1_15) (q := 16) rfl rfl ?_
  refine own_iconst X0 hx (v := (2 : Int32)) (hb hby own_d1_16) (q := 17) rfl rfl ?_
  refine own_icmpM X0 hx (hb hby own_d1_17) (cd := .ne) (x := (4 : Int32)) (y := (2 : Int32)) (pt := 36) (q := 20) (by decide) (by decide) rfl rfl (fun _ => ?_) (fun h => False.elim (((by decide) : ¬ ((4 : Int32) = (2 : Int32))) h))
  refine own_iloadN X0 hx (hb hby own_d1_36) (q := 37) rfl rfl ?_
  refine own_iconst X0 hx (v := (3 : Int32)) (hb hby own_d1_37) (q := 38) rfl rfl ?_
  refine own_icmpM X0 hx (hb hby own_d1_38) (cd := .ne) (x := (4 : Int32)) (y := (3 : Int32)) (pt := 63) (q := 41) (by decide) (by decide) rfl rfl (fun _ => ?_) (fun h => False.elim (((by decide) : ¬ ((4 : Int32) = (3 : Int32))) h))
  refine own_iloadN X0 hx (hb hby own_d1_63) (q := 64) rfl rfl ?_
  refine own_iconst X0 hx (v := (4 : Int32)) (hb hby own_d1_64) (q := 65) rfl rfl ?_
  refine own_icmpM X0 hx (hb hby own_d1_65) (cd := .ne) (x := (4 : Int32)) (y := (4 : Int32)) (pt := 96) (q := 68) (by decide) (by decide) rfl rfl (fun h => False.elim (h ((by decide) : (4 : Int32) = (4 : Int32)))) (fun _ => ?_)
  refine own_iconst X0 hx (v := (4 : Int32)) (hb hby own_d1_68) (q := 69) rfl rfl ?_
  refine own_newA X0 hx hZ (aty := .int) (ty := .int) (k := 4) (cap := 4) rfl (hw _ (List.mem_of_getElem? (i := 1) rfl)) e0 (by decide) (by decide) (by decide) (by decide) (by decide) (by decide) (hb hby own_d1_69) (q := 71) rfl (fun T157 h160 a161 X158 e159 g162 E163 A164 => ?_)
  have O165 : h0.size ≤ a161 := by rw [g162]; exact K0.1
  have V166 := V0p.ext E163
  have K167 := K0.ext E163
  have ne168 : a1 ≠ a161 := by rw [g162]; exact Nat.ne_of_lt V0p.lt
  have Z169 : n0 ≤ a161 := by rw [g162]; exact Z0
  have Z170 : n0 ≤ h160.size := Nat.le_trans Z0 E163.1
  replace A164 : own_A Z h160 a161 .int [.int (0 : Int32), .int (0 : Int32), .int (0 : Int32), .int (0 : Int32)] := A164
  refine own_dup X158 hx (hb hby own_d1_71) (q := 72) rfl rfl ?_
  refine own_iconst X158 hx (v := (0 : Int32)) (hb hby own_d1_72) (q := 73) rfl rfl ?_
  refine own_aloadN X158 hx (hb hby own_d1_73) (q := 74) rfl rfl rfl ?_
  refine own_iconst X158 hx (v := (0 : Int32)) (hb hby own_d1_74) (q := 75) rfl rfl ?_
  refine own_iaload X158 hx hZ (i := 0) (v := .int x0) e159 V166 (by decide) (by decide) rfl (hb hby own_d1_75) (q := 76) rfl ?_
  refine own_iastore X158 hx hZ (i := 0) e159 A164 (by decide) (by decide) (Nat.le_of_ble_eq_true rfl) (hb hby own_d1_76) (q := 77) rfl (fun T171 h174 X172 e173 W175 A176 => ?_)
  replace A176 : own_A Z h174 a161 .int [.int x0, .int (0 : Int32), .int (0 : Int32), .int (0 : Int32)] := A176
  have V177 := V166.other W175 ne168
  have K178 := K167.wr W175 (Or.inr O165)
  have Z179 : n0 ≤ h174.size := W175.size ▸ Z170
  have N180 := Fr.snoc X172 N0 Z169
  refine own_dup X172 hx (hb hby own_d1_77) (q := 78) rfl rfl ?_
  refine own_iconst X172 hx (v := (1 : Int32)) (hb hby own_d1_78) (q := 79) rfl rfl ?_
  refine own_aloadN X172 hx (hb hby own_d1_79) (q := 80) rfl rfl rfl ?_
  refine own_iconst X172 hx (v := (1 : Int32)) (hb hby own_d1_80) (q := 81) rfl rfl ?_
  refine own_iaload X172 hx hZ (i := 1) (v := .int x1) e173 V177 (by decide) (by decide) rfl (hb hby own_d1_81) (q := 82) rfl ?_
  refine own_iastore X172 hx hZ (i := 1) e173 A176 (by decide) (by decide) (Nat.le_of_ble_eq_true rfl) (hb hby own_d1_82) (q := 83) rfl (fun T181 h184 X182 e183 W185 A186 => ?_)
  replace A186 : own_A Z h184 a161 .int [.int x0, .int x1, .int (0 : Int32), .int (0 : Int32)] := A186
  have V187 := V177.other W185 ne168
  have K188 := K178.wr W185 (Or.inr O165)
  have Z189 : n0 ≤ h184.size := W185.size ▸ Z179
  have N190 := Fr.snoc X182 N180 Z169
  refine own_dup X182 hx (hb hby own_d1_83) (q := 84) rfl rfl ?_
  refine own_iconst X182 hx (v := (2 : Int32)) (hb hby own_d1_84) (q := 85) rfl rfl ?_
  refine own_aloadN X182 hx (hb hby own_d1_85) (q := 86) rfl rfl rfl ?_
  refine own_iconst X182 hx (v := (2 : Int32)) (hb hby own_d1_86) (q := 87) rfl rfl ?_
  refine own_iaload X182 hx hZ (i := 2) (v := .int x2) e183 V187 (by decide) (by decide) rfl (hb hby own_d1_87) (q := 88) rfl ?_
  refine own_iastore X182 hx hZ (i := 2) e183 A186 (by decide) (by decide) (Nat.le_of_ble_eq_true rfl) (hb hby own_d1_88) (q := 89) rfl (fun T191 h194 X192 e193 W195 A196 => ?_)
  replace A196 : own_A Z h194 a161 .int [.int x0, .int x1, .int x2, .int (0 : Int32)] := A196
  have V197 := V187.other W195 ne168
  have K198 := K188.wr W195 (Or.inr O165)
  have Z199 : n0 ≤ h194.size := W195.size ▸ Z189
  have N200 := Fr.snoc X192 N190 Z169
  refine own_dup X192 hx (hb hby own_d1_89) (q := 90) rfl rfl ?_
  refine own_iconst X192 hx (v := (3 : Int32)) (hb hby own_d1_90) (q := 91) rfl rfl ?_
  refine own_aloadN X192 hx (hb hby own_d1_91) (q := 92) rfl rfl rfl ?_
  refine own_iconst X192 hx (v := (3 : Int32)) (hb hby own_d1_92) (q := 93) rfl rfl ?_
  refine own_iaload X192 hx hZ (i := 3) (v := .int x3) e193 V197 (by decide) (by decide) rfl (hb hby own_d1_93) (q := 94) rfl ?_
  refine own_iastore X192 hx hZ (i := 3) e193 A196 (by decide) (by decide) (Nat.le_of_ble_eq_true rfl) (hb hby own_d1_94) (q := 95) rfl (fun T201 h204 X202 e203 W205 A206 => ?_)
  replace A206 : own_A Z h204 a161 .int [.int x0, .int x1, .int x2, .int x3] := A206
  have V207 := V197.other W205 ne168
  have K208 := K198.wr W205 (Or.inr O165)
  have Z209 : n0 ≤ h204.size := W205.size ▸ Z199
  have N210 := Fr.snoc X202 N200 Z169
  refine own_retA X202 hx hlk rfl rfl rfl Bd.returns (hb hby own_d1_95) ?_ (by decide) (by decide)
  show own_Q1_4 Z a1 x0 x1 x2 x3 h0 n0 _ T201.heap _
  rw [e203]
  exact ⟨a161, rfl, N210, K208, O165, A206⟩
def own_v4_85 (x0 x1 x2 x3 t0 t1 t2 t3 t4 t5 : Int32) : Int32 := own_cat6 t0 t1 t2 t3 t4 t5 x3
def own_v4_86 (x0 x1 x2 x3 t0 t1 t2 t3 t4 t5 : Int32) : Int32 := own_cat6 t0 t1 t2 t3 t4 t5 x2
def own_v4_87 (x0 x1 x2 x3 t0 t1 t2 t3 t4 t5 : Int32) : Int32 := own_up x3 0 (own_v4_86 x0 x1 x2 x3 t0 t1 t2 t3 t4 t5) t0
def own_v4_88 (x0 x1 x2 x3 t0 t1 t2 t3 t4 t5 : Int32) : Int32 := own_up x3 1 (own_v4_86 x0 x1 x2 x3 t0 t1 t2 t3 t4 t5) t1
def own_v4_89 (x0 x1 x2 x3 t0 t1 t2 t3 t4 t5 : Int32) : Int32 := own_up x3 2 (own_v4_86 x0 x1 x2 x3 t0 t1 t2 t3 t4 t5) t2
def own_v4_90 (x0 x1 x2 x3 t0 t1 t2 t3 t4 t5 : Int32) : Int32 := own_up x3 3 (own_v4_86 x0 x1 x2 x3 t0 t1 t2 t3 t4 t5) t3
def own_v4_91 (x0 x1 x2 x3 t0 t1 t2 t3 t4 t5 : Int32) : Int32 := own_up x3 4 (own_v4_86 x0 x1 x2 x3 t0 t1 t2 t3 t4 t5) t4
def own_v4_92 (x0 x1 x2 x3 t0 t1 t2 t3 t4 t5 : Int32) : Int32 := own_up x3 5 (own_v4_86 x0 x1 x2 x3 t0 t1 t2 t3 t4 t5) t5
def own_v4_93 (x0 x1 x2 x3 t0 t1 t2 t3 t4 t5 : Int32) : Int32 := own_cat6 (own_v4_87 x0 x1 x2 x3 t0 t1 t2 t3 t4 t5) (own_v4_88 x0 x1 x2 x3 t0 t1 t2 t3 t4 t5) (own_v4_89 x0 x1 x2 x3 t0 t1 t2 t3 t4 t5) (own_v4_90 x0 x1 x2 x3 t0 t1 t2 t3 t4 t5) (own_v4_91 x0 x1 x2 x3 t0 t1 t2 t3 t4 t5) (own_v4_92 x0 x1 x2 x3 t0 t1 t2 t3 t4 t5) x1
def own_v4_94 (x0 x1 x2 x3 t0 t1 t2 t3 t4 t5 : Int32) : Int32 := own_up x2 0 (own_v4_93 x0 x1 x2 x3 t0 t1 t2 t3 t4 t5) (own_v4_87 x0 x1 x2 x3 t0 t1 t2 t3 t4 t5)
def own_v4_95 (x0 x1 x2 x3 t0 t1 t2 t3 t4 t5 : Int32) : Int32 := own_up x2 1 (own_v4_93 x0 x1 x2 x3 t0 t1 t2 t3 t4 t5) (own_v4_88 x0 x1 x2 x3 t0 t1 t2 t3 t4 t5)
def own_v4_96 (x0 x1 x2 x3 t0 t1 t2 t3 t4 t5 : Int32) : Int32 := own_up x2 2 (own_v4_93 x0 x1 x2 x3 t0 t1 t2 t3 t4 t5) (own_v4_89 x0 x1 x2 x3 t0 t1 t2 t3 t4 t5)
def own_v4_97 (x0 x1 x2 x3 t0 t1 t2 t3 t4 t5 : Int32) : Int32 := own_up x2 3 (own_v4_93 x0 x1 x2 x3 t0 t1 t2 t3 t4 t5) (own_v4_90 x0 x1 x2 x3 t0 t1 t2 t3 t4 t5)
def own_v4_98 (x0 x1 x2 x3 t0 t1 t2 t3 t4 t5 : Int32) : Int32 := own_up x2 4 (own_v4_93 x0 x1 x2 x3 t0 t1 t2 t3 t4 t5) (own_v4_91 x0 x1 x2 x3 t0 t1 t2 t3 t4 t5)
def own_v4_99 (x0 x1 x2 x3 t0 t1 t2 t3 t4 t5 : Int32) : Int32 := own_up x2 5 (own_v4_93 x0 x1 x2 x3 t0 t1 t2 t3 t4 t5) (own_v4_92 x0 x1 x2 x3 t0 t1 t2 t3 t4 t5)
def own_v4_100 (x0 x1 x2 x3 t0 t1 t2 t3 t4 t5 : Int32) : Int32 := own_cat6 (own_v4_94 x0 x1 x2 x3 t0 t1 t2 t3 t4 t5) (own_v4_95 x0 x1 x2 x3 t0 t1 t2 t3 t4 t5) (own_v4_96 x0 x1 x2 x3 t0 t1 t2 t3 t4 t5) (own_v4_97 x0 x1 x2 x3 t0 t1 t2 t3 t4 t5) (own_v4_98 x0 x1 x2 x3 t0 t1 t2 t3 t4 t5) (own_v4_99 x0 x1 x2 x3 t0 t1 t2 t3 t4 t5) x0
def own_v4_101 (x0 x1 x2 x3 t0 t1 t2 t3 t4 t5 : Int32) : Int32 := own_up x1 0 (own_v4_100 x0 x1 x2 x3 t0 t1 t2 t3 t4 t5) (own_v4_94 x0 x1 x2 x3 t0 t1 t2 t3 t4 t5)
def own_v4_102 (x0 x1 x2 x3 t0 t1 t2 t3 t4 t5 : Int32) : Int32 := own_up x1 1 (own_v4_100 x0 x1 x2 x3 t0 t1 t2 t3 t4 t5) (own_v4_95 x0 x1 x2 x3 t0 t1 t2 t3 t4 t5)
def own_v4_103 (x0 x1 x2 x3 t0 t1 t2 t3 t4 t5 : Int32) : Int32 := own_up x1 2 (own_v4_100 x0 x1 x2 x3 t0 t1 t2 t3 t4 t5) (own_v4_96 x0 x1 x2 x3 t0 t1 t2 t3 t4 t5)
def own_v4_104 (x0 x1 x2 x3 t0 t1 t2 t3 t4 t5 : Int32) : Int32 := own_up x1 3 (own_v4_100 x0 x1 x2 x3 t0 t1 t2 t3 t4 t5) (own_v4_97 x0 x1 x2 x3 t0 t1 t2 t3 t4 t5)
def own_v4_105 (x0 x1 x2 x3 t0 t1 t2 t3 t4 t5 : Int32) : Int32 := own_up x1 4 (own_v4_100 x0 x1 x2 x3 t0 t1 t2 t3 t4 t5) (own_v4_98 x0 x1 x2 x3 t0 t1 t2 t3 t4 t5)
def own_v4_106 (x0 x1 x2 x3 t0 t1 t2 t3 t4 t5 : Int32) : Int32 := own_up x1 5 (own_v4_100 x0 x1 x2 x3 t0 t1 t2 t3 t4 t5) (own_v4_99 x0 x1 x2 x3 t0 t1 t2 t3 t4 t5)
def own_v4_107 (x0 x1 x2 x3 t0 t1 t2 t3 t4 t5 : Int32) : Int32 := own_up x0 0 (own_v4_85 x0 x1 x2 x3 t0 t1 t2 t3 t4 t5) (own_v4_101 x0 x1 x2 x3 t0 t1 t2 t3 t4 t5)
def own_v4_108 (x0 x1 x2 x3 t0 t1 t2 t3 t4 t5 : Int32) : Int32 := own_up x0 1 (own_v4_85 x0 x1 x2 x3 t0 t1 t2 t3 t4 t5) (own_v4_102 x0 x1 x2 x3 t0 t1 t2 t3 t4 t5)
def own_v4_109 (x0 x1 x2 x3 t0 t1 t2 t3 t4 t5 : Int32) : Int32 := own_up x0 2 (own_v4_85 x0 x1 x2 x3 t0 t1 t2 t3 t4 t5) (own_v4_103 x0 x1 x2 x3 t0 t1 t2 t3 t4 t5)
def own_v4_110 (x0 x1 x2 x3 t0 t1 t2 t3 t4 t5 : Int32) : Int32 := own_up x0 3 (own_v4_85 x0 x1 x2 x3 t0 t1 t2 t3 t4 t5) (own_v4_104 x0 x1 x2 x3 t0 t1 t2 t3 t4 t5)
def own_v4_111 (x0 x1 x2 x3 t0 t1 t2 t3 t4 t5 : Int32) : Int32 := own_up x0 4 (own_v4_85 x0 x1 x2 x3 t0 t1 t2 t3 t4 t5) (own_v4_105 x0 x1 x2 x3 t0 t1 t2 t3 t4 t5)
def own_v4_112 (x0 x1 x2 x3 t0 t1 t2 t3 t4 t5 : Int32) : Int32 := own_up x0 5 (own_v4_85 x0 x1 x2 x3 t0 t1 t2 t3 t4 t5) (own_v4_106 x0 x1 x2 x3 t0 t1 t2 t3 t4 t5)
def own_v4_113 (x0 x1 x2 x3 t0 t1 t2 t3 t4 t5 : Int32) : Int32 := own_cat6 t0 t1 t2 t3 t4 t5 x3
def own_v4_114 (x0 x1 x2 x3 t0 t1 t2 t3 t4 t5 : Int32) : Int32 := own_cat6 t0 t1 t2 t3 t4 t5 x2
def own_v4_115 (x0 x1 x2 x3 t0 t1 t2 t3 t4 t5 : Int32) : Int32 := own_up x3 0 (own_v4_114 x0 x1 x2 x3 t0 t1 t2 t3 t4 t5) t0
def own_v4_116 (x0 x1 x2 x3 t0 t1 t2 t3 t4 t5 : Int32) : Int32 := own_up x3 1 (own_v4_114 x0 x1 x2 x3 t0 t1 t2 t3 t4 t5) t1
def own_v4_117 (x0 x1 x2 x3 t0 t1 t2 t3 t4 t5 : Int32) : Int32 := own_up x3 2 (own_v4_114 x0 x1 x2 x3 t0 t1 t2 t3 t4 t5) t2
def own_v4_118 (x0 x1 x2 x3 t0 t1 t2 t3 t4 t5 : Int32) : Int32 := own_up x3 3 (own_v4_114 x0 x1 x2 x3 t0 t1 t2 t3 t4 t5) t3
def own_v4_119 (x0 x1 x2 x3 t0 t1 t2 t3 t4 t5 : Int32) : Int32 := own_up x3 4 (own_v4_114 x0 x1 x2 x3 t0 t1 t2 t3 t4 t5) t4
def own_v4_120 (x0 x1 x2 x3 t0 t1 t2 t3 t4 t5 : Int32) : Int32 := own_up x3 5 (own_v4_114 x0 x1 x2 x3 t0 t1 t2 t3 t4 t5) t5
def own_v4_121 (x0 x1 x2 x3 t0 t1 t2 t3 t4 t5 : Int32) : Int32 := own_cat6 (own_v4_115 x0 x1 x2 x3 t0 t1 t2 t3 t4 t5) (own_v4_116 x0 x1 x2 x3 t0 t1 t2 t3 t4 t5) (own_v4_117 x0 x1 x2 x3 t0 t1 t2 t3 t4 t5) (own_v4_118 x0 x1 x2 x3 t0 t1 t2 t3 t4 t5) (own_v4_119 x0 x1 x2 x3 t0 t1 t2 t3 t4 t5) (own_v4_120 x0 x1 x2 x3 t0 t1 t2 t3 t4 t5) x1
def own_v4_122 (x0 x1 x2 x3 t0 t1 t2 t3 t4 t5 : Int32) : Int32 := own_up x2 0 (own_v4_121 x0 x1 x2 x3 t0 t1 t2 t3 t4 t5) (own_v4_115 x0 x1 x2 x3 t0 t1 t2 t3 t4 t5)
def own_v4_123 (x0 x1 x2 x3 t0 t1 t2 t3 t4 t5 : Int32) : Int32 := own_up x2 1 (own_v4_121 x0 x1 x2 x3 t0 t1 t2 t3 t4 t5) (own_v4_116 x0 x1 x2 x3 t0 t1 t2 t3 t4 t5)
def own_v4_124 (x0 x1 x2 x3 t0 t1 t2 t3 t4 t5 : Int32) : Int32 := own_up x2 2 (own_v4_121 x0 x1 x2 x3 t0 t1 t2 t3 t4 t5) (own_v4_117 x0 x1 x2 x3 t0 t1 t2 t3 t4 t5)
def own_v4_125 (x0 x1 x2 x3 t0 t1 t2 t3 t4 t5 : Int32) : Int32 := own_up x2 3 (own_v4_121 x0 x1 x2 x3 t0 t1 t2 t3 t4 t5) (own_v4_118 x0 x1 x2 x3 t0 t1 t2 t3 t4 t5)
def own_v4_126 (x0 x1 x2 x3 t0 t1 t2 t3 t4 t5 : Int32) : Int32 := own_up x2 4 (own_v4_121 x0 x1 x2 x3 t0 t1 t2 t3 t4 t5) (own_v4_119 x0 x1 x2 x3 t0 t1 t2 t3 t4 t5)
def own_v4_127 (x0 x1 x2 x3 t0 t1 t2 t3 t4 t5 : Int32) : Int32 := own_up x2 5 (own_v4_121 x0 x1 x2 x3 t0 t1 t2 t3 t4 t5) (own_v4_120 x0 x1 x2 x3 t0 t1 t2 t3 t4 t5)
def own_v4_128 (x0 x1 x2 x3 t0 t1 t2 t3 t4 t5 : Int32) : Int32 := own_cat6 (own_v4_122 x0 x1 x2 x3 t0 t1 t2 t3 t4 t5) (own_v4_123 x0 x1 x2 x3 t0 t1 t2 t3 t4 t5) (own_v4_124 x0 x1 x2 x3 t0 t1 t2 t3 t4 t5) (own_v4_125 x0 x1 x2 x3 t0 t1 t2 t3 t4 t5) (own_v4_126 x0 x1 x2 x3 t0 t1 t2 t3 t4 t5) (own_v4_127 x0 x1 x2 x3 t0 t1 t2 t3 t4 t5) x0
def own_v4_129 (x0 x1 x2 x3 t0 t1 t2 t3 t4 t5 : Int32) : Int32 := own_up x1 0 (own_v4_128 x0 x1 x2 x3 t0 t1 t2 t3 t4 t5) (own_v4_122 x0 x1 x2 x3 t0 t1 t2 t3 t4 t5)
def own_v4_130 (x0 x1 x2 x3 t0 t1 t2 t3 t4 t5 : Int32) : Int32 := own_up x1 1 (own_v4_128 x0 x1 x2 x3 t0 t1 t2 t3 t4 t5) (own_v4_123 x0 x1 x2 x3 t0 t1 t2 t3 t4 t5)
def own_v4_131 (x0 x1 x2 x3 t0 t1 t2 t3 t4 t5 : Int32) : Int32 := own_up x1 2 (own_v4_128 x0 x1 x2 x3 t0 t1 t2 t3 t4 t5) (own_v4_124 x0 x1 x2 x3 t0 t1 t2 t3 t4 t5)
def own_v4_132 (x0 x1 x2 x3 t0 t1 t2 t3 t4 t5 : Int32) : Int32 := own_up x1 3 (own_v4_128 x0 x1 x2 x3 t0 t1 t2 t3 t4 t5) (own_v4_125 x0 x1 x2 x3 t0 t1 t2 t3 t4 t5)
def own_v4_133 (x0 x1 x2 x3 t0 t1 t2 t3 t4 t5 : Int32) : Int32 := own_up x1 4 (own_v4_128 x0 x1 x2 x3 t0 t1 t2 t3 t4 t5) (own_v4_126 x0 x1 x2 x3 t0 t1 t2 t3 t4 t5)
def own_v4_134 (x0 x1 x2 x3 t0 t1 t2 t3 t4 t5 : Int32) : Int32 := own_up x1 5 (own_v4_128 x0 x1 x2 x3 t0 t1 t2 t3 t4 t5) (own_v4_127 x0 x1 x2 x3 t0 t1 t2 t3 t4 t5)
def own_v4_135 (x0 x1 x2 x3 t0 t1 t2 t3 t4 t5 : Int32) : Int32 := own_up x0 0 (own_v4_113 x0 x1 x2 x3 t0 t1 t2 t3 t4 t5) (own_v4_129 x0 x1 x2 x3 t0 t1 t2 t3 t4 t5)
def own_v4_136 (x0 x1 x2 x3 t0 t1 t2 t3 t4 t5 : Int32) : Int32 := own_up x0 1 (own_v4_113 x0 x1 x2 x3 t0 t1 t2 t3 t4 t5) (own_v4_130 x0 x1 x2 x3 t0 t1 t2 t3 t4 t5)
def own_v4_137 (x0 x1 x2 x3 t0 t1 t2 t3 t4 t5 : Int32) : Int32 := own_up x0 2 (own_v4_113 x0 x1 x2 x3 t0 t1 t2 t3 t4 t5) (own_v4_131 x0 x1 x2 x3 t0 t1 t2 t3 t4 t5)
def own_v4_138 (x0 x1 x2 x3 t0 t1 t2 t3 t4 t5 : Int32) : Int32 := own_up x0 3 (own_v4_113 x0 x1 x2 x3 t0 t1 t2 t3 t4 t5) (own_v4_132 x0 x1 x2 x3 t0 t1 t2 t3 t4 t5)
def own_v4_139 (x0 x1 x2 x3 t0 t1 t2 t3 t4 t5 : Int32) : Int32 := own_up x0 4 (own_v4_113 x0 x1 x2 x3 t0 t1 t2 t3 t4 t5) (own_v4_133 x0 x1 x2 x3 t0 t1 t2 t3 t4 t5)
def own_v4_140 (x0 x1 x2 x3 t0 t1 t2 t3 t4 t5 : Int32) : Int32 := own_up x0 5 (own_v4_113 x0 x1 x2 x3 t0 t1 t2 t3 t4 t5) (own_v4_134 x0 x1 x2 x3 t0 t1 t2 t3 t4 t5)

def own_Q2_4 (Z : State) (a1 : Addr) (a2 : Addr) (t0 : Int32) (t1 : Int32) (t2 : Int32) (t3 : Int32) (t4 : Int32) (t5 : Int32) (x0 : Int32) (x1 : Int32) (x2 : Int32) (x3 : Int32) (h0 : Heap) (n0 : Nat) (v : Option Value) (h : Heap) (L : List Loc) : Prop := v = none ∧ Fr n0 L ∧ Keep h0 h [a1] ∧ own_A Z h a1 .int [.int (own_v4_107 x0 x1 x2 x3 t0 t1 t2 t3 t4 t5), .int (own_v4_108 x0 x1 x2 x3 t0 t1 t2 t3 t4 t5), .int (own_v4_109 x0 x1 x2 x3 t0 t1 t2 t3 t4 t5), .int (own_v4_110 x0 x1 x2 x3 t0 t1 t2 t3 t4 t5), .int (own_v4_111 x0 x1 x2 x3 t0 t1 t2 t3 t4 t5), .int (own_v4_112 x0 x1 x2 x3 t0 t1 t2 t3 t4 t5)] ∧ own_A Z h a2 .int [.int x0, .int x1, .int x2, .int x3]
set_option maxRecDepth 65536 in
set_option maxHeartbeats 40000000 in
theorem rm2_4 (l : Launch) (Z : State) (a0 : Array Value) (hw : ∀ d ∈ tables_1, d.before a0 Z = true) (ws : List Jvm.Cond) (a1 : Addr) (a2 : Addr) (t0 : Int32) (t1 : Int32) (t2 : Int32) (t3 : Int32) (t4 : Int32) (t5 : Int32) (x0 : Int32) (x1 : Int32) (x2 : Int32) (x3 : Int32) (h0 : Heap) (n0 : Nat) (V0p : own_A Z h0 a1 .int [.int t0, .int t1, .int t2, .int t3, .int t4, .int t5]) (V1p : own_A Z h0 a2 .int [.int x0, .int x1, .int x2, .int x3]) (G_a1 : n0 ≤ a1) (ne_a2_a1 : a2 ≠ a1) (hS : own_S4 x0 x1 x2 x3) :
    MetFree l (⟨"com/example/tourloom/tourloom/GeneticOperators", "shiftRound", "([I[I)V"⟩ : MethodName) (head1 (Jvm.Cond.code (⟨"com/example/tourloom/tourloom/GeneticOperators", "shiftRound", "([I[I)V"⟩ : MethodName) prog_15_method_6_code 4 none :: ws) ({ frames := 0, cells := 0, slots := 0, locals := 0 } : Room)) (fun a U => a = #[.ref a1, .ref a2] ∧ Z.Warmed39 U.vm ∧ U.heap = h0) (fun _ _ _ _ _ => True) (fun _ U o U' => ∃ v L, o = .returned v ∧ own_Q2_4 Z a1 a2 t0 t1 t2 t3 t4 t5 x0 x1 x2 x3 h0 n0 v U'.heap L ∧ FrameEnd U o U' L ({ frames := 0, cells := 0, slots := 0, locals := 0 } : Room).cells ({ frames := 0, cells := 0, slots := 0, locals := 0 } : Room).slots) := by
  refine MetFree.of_bodySF (plainFor_of_name own_pn2) hisR ?_
  intro p e s m args below meth c s₁ Bd hml0 hP hK
  obtain ⟨rfl, hZ, hh⟩ := hP
  have hx := Bd.exec
  have hby := Bd.bytes
  have hml : c.maxLocals = 4 := hml0
  have hown : s.vm.findClass "com/example/tourloom/tourloom/GeneticOperators" = some m.cls := findClass_of_methodNamed Bd.named
  have hnm := (name_of_methodNamed Bd.named Bd.method).1
  have hlk : meth.locks = false := BodyLoose.notSynchronized Bd
  have X0 : Stand p l e ({ frames := 0, cells := 0, slots := 0, locals := 0 } : Room) s m #[.ref a1, .ref a2] below meth c s₁ [] 0 0 := Stand.of_body Bd
  have e0 : s₁.heap = h0 := by rw [← hh, Bd.state]; rfl
  have N0 := Fr.nil n0
  have K0 := Keep.refl h0 [a1]
  show own_Go p e below (own_E s 0 0 (own_Q2_4 Z a1 a2 t0 t1 t2 t3 t4 t5 x0 x1 x2 x3 h0 n0)) (s₁.setTop (entryFrame m #[.ref a1, .ref a2] 4))
  rw [own_ef2]
  refine own_aloadN X0 hx (hb hby own_d2_0) (q := 1) rfl rfl rfl ?_
  refine own_aloadN X0 hx (hb hby own_d2_1) (q := 2) rfl rfl rfl ?_
  refine own_aloadN X0 hx (hb hby own_d2_2) (q := 3) rfl rfl rfl ?_
  refine own_alen X0 hx hZ (n := (4 : Int32)) e0 V1p rfl (hb hby own_d2_3) (q := 4) rfl ?_
  refine own_iconst X0 hx (v := (1 : Int32)) (hb hby own_d2_4) (q := 5) rfl rfl ?_
  refine own_isub X0 hx (hb hby own_d2_5) (q := 6) rfl ?_
  rw [show ((4 : Int32) - (1 : Int32) : Int32) = (3 : Int32) from by decide]
  refine own_iaload X0 hx hZ (i := 3) (v := .int x3) e0 V1p (by decide) (by decide) rfl (hb hby own_d2_6) (q := 7) rfl ?_
  refine own_iaload X0 hx hZ (i := (x3).toNatClampNeg) (v := .int (own_v4_113 x0 x1 x2 x3 t0 t1 t2 t3 t4 t5)) e0 V0p (own_nn6 (own_S4_3 hS)) rfl (own_cat6V (own_S4_3 hS)) (hb hby own_d2_7) (q := 8) rfl ?_
  refine own_istoreN (L' := #[.val (.ref a1), .val (.ref a2), .val (.int (own_v4_113 x0 x1 x2 x3 t0 t1 t2 t3 t4 t5)), .unset]) X0 hx (hb hby own_d2_8) (q := 9) rfl rfl ?_
  refine own_aloadN X0 hx (hb hby own_d2_9) (q := 10) rfl rfl rfl ?_
  refine own_alen X0 hx hZ (n := (4 : Int32)) e0 V1p rfl (hb hby own_d2_10) (q := 11) rfl ?_
  refine own_iconst X0 hx (v := (1 : Int32)) (hb hby own_d2_11) (q := 12) rfl rfl ?_
  refine own_isub X0 hx (hb hby own_d2_12) (q := 13) rfl ?_
  rw [show ((4 : Int32) - (1 : Int32) : Int32) = (3 : Int32) from by decide]
  refine own_istoreN (L' := #[.val (.ref a1), .val (.ref a2), .val (.int (own_v4_113 x0 x1 x2 x3 t0 t1 t2 t3 t4 t5)), .val (.int (3 : Int32))]) X0 hx (hb hby own_d2_13) (q := 14) rfl rfl ?_
  refine own_iloadN X0 hx (hb hby own_d2_14) (q := 15) rfl rfl ?_
  refine own_if0M X0 hx (hb hby own_d2_15) (cd := .le) (x := (3 : Int32)) (pt := 36) (q := 18) (by decide) (by decide) rfl rfl (fun h => False.elim (h ((by decide) : (0 : Int32) < (3 : Int32)))) (fun _ => ?_)
  refine own_aloadN X0 hx (hb hby own_d2_18) (q := 19) rfl rfl rfl ?_
  refine own_aloadN X0 hx (hb hby own_d2_19) (q := 20) rfl rfl rfl ?_
  refine own_iloadN X0 hx (hb hby own_d2_20) (q := 21) rfl rfl ?_
  refine own_iaload X0 hx hZ (i := 3) (v := .int x3) e0 V1p (by decide) (by decide) rfl (hb hby own_d2_21) (q := 22) rfl ?_
  refine own_aloadN X0 hx (hb hby own_d2_22) (q := 23) rfl rfl rfl ?_
  refine own_aloadN X0 hx (hb hby own_d2_23) (q := 24) rfl rfl rfl ?_
  refine own_iloadN X0 hx (hb hby own_d2_24) (q := 25) rfl rfl ?_
  refine own_iconst X0 hx (v := (1 : Int32)) (hb hby own_d2_25) (q := 26) rfl rfl ?_
  refine own_isub X0 hx (hb hby own_d2_26) (q := 27) rfl ?_
  rw [show ((3 : Int32) - (1 : Int32) : Int32) = (2 : Int32) from by decide]
  refine own_iaload X0 hx hZ (i := 2) (v := .int x2) e0 V1p (by decide) (by decide) rfl (hb hby own_d2_27) (q := 28) rfl ?_
  refine own_iaload X0 hx hZ (i := (x2).toNatClampNeg) (v := .int (own_v4_114 x0 x1 x2 x3 t0 t1 t2 t3 t4 t5)) e0 V0p (own_nn6 (own_S4_2 hS)) rfl (own_cat6V (own_S4_2 hS)) (hb hby own_d2_28) (q := 29) rfl ?_
  refine own_iastore X0 hx hZ (i := (x3).toNatClampNeg) e0 V0p (own_nn6 (own_S4_3 hS)) rfl (own_lt6 (own_S4_3 hS)) (hb hby own_d2_29) (q := 30) rfl (fun T211 h214 X212 e213 W215 A216 => ?_)
  replace A216 : own_A Z h214 a1 .int [.int (own_v4_115 x0 x1 x2 x3 t0 t1 t2 t3 t4 t5), .int (own_v4_116 x0 x1 x2 x3 t0 t1 t2 t3 t4 t5), .int (own_v4_117 x0 x1 x2 x3 t0 t1 t2 t3 t4 t5), .int (own_v4_118 x0 x1 x2 x3 t0 t1 t2 t3 t4 t5), .int (own_v4_119 x0 x1 x2 x3 t0 t1 t2 t3 t4 t5), .int (own_v4_120 x0 x1 x2 x3 t0 t1 t2 t3 t4 t5)] := by rw [own_set6 (own_S4_3 hS)] at A216; exact A216
  have V217 := V1p.other W215 ne_a2_a1
  have K218 := K0.wr W215 (Or.inl (List.mem_of_getElem? (i := 0) rfl))
  have N219 := Fr.snoc X212 N0 G_a1
  refine own_iinc (L' := #[.val (.ref a1), .val (.ref a2), .val (.int (own_v4_113 x0 x1 x2 x3 t0 t1 t2 t3 t4 t5)), .val (.int ((3 : Int32) + (-1 : Int32)))]) X212 hx (v := (-1 : Int32)) (hb hby own_d2_30) (q := 33) rfl rfl rfl rfl ?_
  rw [show ((3 : Int32) + (-1 : Int32) : Int32) = (2 : Int32) from by decide]
  refine own_goto X212 hx (hb hby own_d2_33) (q := 14) (by decide) (by decide) ?_
  refine own_iloadN X212 hx (hb hby own_d2_14) (q := 15) rfl rfl ?_
  refine own_if0M X212 hx (hb hby own_d2_15) (cd := .le) (x := (2 : Int32)) (pt := 36) (q := 18) (by decide) (by decide) rfl rfl (fun h => False.elim (h ((by decide) : (0 : Int32) < (2 : Int32)))) (fun _ => ?_)
  refine own_aloadN X212 hx (hb hby own_d2_18) (q := 19) rfl rfl rfl ?_
  refine own_aloadN X212 hx (hb hby own_d2_19) (q := 20) rfl rfl rfl ?_
  refine own_iloadN X212 hx (hb hby own_d2_20) (q := 21) rfl rfl ?_
  refine own_iaload X212 hx hZ (i := 2) (v := .int x2) e213 V217 (by decide) (by decide) rfl (hb hby own_d2_21) (q := 22) rfl ?_
  refine own_aloadN X212 hx (hb hby own_d2_22) (q := 23) rfl rfl rfl ?_
  refine own_aloadN X212 hx (hb hby own_d2_23) (q := 24) rfl rfl rfl ?_
  refine own_iloadN X212 hx (hb hby own_d2_24) (q := 25) rfl rfl ?_
  refine own_iconst X212 hx (v := (1 : Int32)) (hb hby own_d2_25) (q := 26) rfl rfl ?_
  refine own_isub X212 hx (hb hby own_d2_26) (q := 27) rfl ?_
  rw [show ((2 : Int32) - (1 : Int32) : Int32) = (1 : Int32) from by decide]
  refine own_iaload X212 hx hZ (i := 1) (v := .int x1) e213 V217 (by decide) (by decide) rfl (hb hby own_d2_27) (q := 28) rfl ?_
  refine own_iaload X212 hx hZ (i := (x1).toNatClampNeg) (v := .int (own_v4_121 x0 x1 x2 x3 t0 t1 t2 t3 t4 t5)) e213 A216 (own_nn6 (own_S4_1 hS)) rfl (own_cat6V (own_S4_1 hS)) (hb hby own_d2_28) (q := 29) rfl ?_
  refine own_iastore X212 hx hZ (i := (x2).toNatClampNeg) e213 A216 (own_nn6 (own_S4_2 hS)) rfl (own_lt6 (own_S4_2 hS)) (hb hby own_d2_29) (q := 30) rfl (fun T220 h223 X221 e222 W224 A225 => ?_)
  replace A225 : own_A Z h223 a1 .int [.int (own_v4_122 x0 x1 x2 x3 t0 t1 t2 t3 t4 t5), .int (own_v4_123 x0 x1 x2 x3 t0 t1 t2 t3 t4 t5), .int (own_v4_124 x0 x1 x2 x3 t0 t1 t2 t3 t4 t5), .int (own_v4_125 x0 x1 x2 x3 t0 t1 t2 t3 t4 t5), .int (own_v4_126 x0 x1 x2 x3 t0 t1 t2 t3 t4 t5), .int (own_v4_127 x0 x1 x2 x3 t0 t1 t2 t3 t4 t5)] := by rw [own_set6 (own_S4_2 hS)] at A225; exact A225
  have V226 := V217.other W224 ne_a2_a1
  have K227 := K218.wr W224 (Or.inl (List.mem_of_getElem? (i := 0) rfl))
  have N228 := Fr.snoc X221 N219 G_a1
  refine own_iinc (L' := #[.val (.ref a1), .val (.ref a2), .val (.int (own_v4_113 x0 x1 x2 x3 t0 t1 t2 t3 t4 t5)), .val (.int ((2 : Int32) + (-1 : Int32)))]) X221 hx (v := (-1 : Int32)) (hb hby own_d2_30) (q := 33) rfl rfl rfl rfl ?_
  rw [show ((2 : Int32) + (-1 : Int32) : Int32) = (1 : Int32) from by decide]
  refine own_goto X221 hx (hb hby own_d2_33) (q := 14) (by decide) (by decide) ?_
  refine own_iloadN X221 hx (hb hby own_d2_14) (q := 15) rfl rfl ?_
  refine own_if0M X221 hx (hb hby own_d2_15) (cd := .le) (x := (1 : Int32)) (pt := 36) (q := 18) (by decide) (by decide) rfl rfl (fun h => False.elim (h ((by decide) : (0 : Int32) < (1 : Int32)))) (fun _ => ?_)
  refine own_aloadN X221 hx (hb hby own_d2_18) (q := 19) rfl rfl rfl ?_
  refine own_aloadN X221 hx (hb hby own_d2_19) (q := 20) rfl rfl rfl ?_
  refine own_iloadN X221 hx (hb hby own_d2_20) (q := 21) rfl rfl ?_
  refine own_iaload X221 hx hZ (i := 1) (v := .int x1) e222 V226 (by decide) (by decide) rfl (hb hby own_d2_21) (q := 22) rfl ?_
  refine own_aloadN X221 hx (hb hby own_d2_22) (q := 23) rfl rfl rfl ?_
  refine own_aloadN X221 hx (hb hby own_d2_23) (q := 24) rfl rfl rfl ?_
  refine own_iloadN X221 hx (hb hby own_d2_24) (q := 25) rfl rfl ?_
  refine own_iconst X221 hx (v := (1 : Int32)) (hb hby own_d2_25) (q := 26) rfl rfl ?_
  refine own_isub X221 hx (hb hby own_d2_26) (q := 27) rfl ?_
  rw [show ((1 : Int32) - (1 : Int32) : Int32) = (0 : Int32) from by decide]
  refine own_iaload X221 hx hZ (i := 0) (v := .int x0) e222 V226 (by decide) (by decide) rfl (hb hby own_d2_27) (q := 28) rfl ?_
  refine own_iaload X221 hx hZ (i := (x0).toNatClampNeg) (v := .int (own_v4_128 x0 x1 x2 x3 t0 t1 t2 t3 t4 t5)) e222 A225 (own_nn6 (own_S4_0 hS)) rfl (own_cat6V (own_S4_0 hS)) (hb hby own_d2_28) (q := 29) rfl ?_
  refine own_iastore X221 hx hZ (i := (x1).toNatClampNeg) e222 A225 (own_nn6 (own_S4_1 hS)) rfl (own_lt6 (own_S4_1 hS)) (hb hby own_d2_29) (q := 30) rfl (fun T229 h232 X230 e231 W233 A234 => ?_)
  replace A234 : own_A Z h232 a1 .int [.int (own_v4_129 x0 x1 x2 x3 t0 t1 t2 t3 t4 t5), .int (own_v4_130 x0 x1 x2 x3 t0 t1 t2 t3 t4 t5), .int (own_v4_131 x0 x1 x2 x3 t0 t1 t2 t3 t4 t5), .int (own_v4_132 x0 x1 x2 x3 t0 t1 t2 t3 t4 t5), .int (own_v4_133 x0 x1 x2 x3 t0 t1 t2 t3 t4 t5), .int (own_v4_134 x0 x1 x2 x3 t0 t1 t2 t3 t4 t5)] := by rw [own_set6 (own_S4_1 hS)] at A234; exact A234
  have V235 := V226.other W233 ne_a2_a1
  have K236 := K227.wr W233 (Or.inl (List.mem_of_getElem? (i := 0) rfl))
  have N237 := Fr.snoc X230 N228 G_a1
  refine own_iinc (L' := #[.val (.ref a1), .val (.ref a2), .val (.int (own_v4_113 x0 x1 x2 x3 t0 t1 t2 t3 t4 t5)), .val (.int ((1 : Int32) + (-1 : Int32)))]) X230 hx (v := (-1 : Int32)) (hb hby own_d2_30) (q := 33) rfl rfl rfl rfl ?_
  rw [show ((1 : Int32) + (-1 : Int32) : Int32) = (0 : Int32) from by decide]
  refine own_goto X230 hx (hb hby own_d2_33) (q := 14) (by decide) (by decide) ?_
  refine own_iloadN X230 hx (hb hby own_d2_14) (q := 15) rfl rfl ?_
  refine own_if0M X230 hx (hb hby own_d2_15) (cd := .le) (x := (0 : Int32)) (pt := 36) (q := 18) (by decide) (by decide) rfl rfl (fun _ => ?_) (fun h => False.elim (((by decide) : ¬ ((0 : Int32) < (0 : Int32))) h))
  refine own_aloadN X230 hx (hb hby own_d2_36) (q := 37) rfl rfl rfl ?_
  refine own_aloadN X230 hx (hb hby own_d2_37) (q := 38) rfl rfl rfl ?_
  refine own_iconst X230 hx (v := (0 : Int32)) (hb hby own_d2_38) (q := 39) rfl rfl ?_
  refine own_iaload X230 hx hZ (i := 0) (v := .int x0) e231 V235 (by decide) (by decide) rfl (hb hby own_d2_39) (q := 40) rfl ?_
  refine own_iloadN X230 hx (hb hby own_d2_40) (q := 41) rfl rfl ?_
  refine own_iastore X230 hx hZ (i := (x0).toNatClampNeg) e231 A234 (own_nn6 (own_S4_0 hS)) rfl (own_lt6 (own_S4_0 hS)) (hb hby own_d2_41) (q := 42) rfl (fun T238 h241 X239 e240 W242 A243 => ?_)
  replace A243 : own_A Z h241 a1 .int [.int (own_v4_135 x0 x1 x2 x3 t0 t1 t2 t3 t4 t5), .int (own_v4_136 x0 x1 x2 x3 t0 t1 t2 t3 t4 t5), .int (own_v4_137 x0 x1 x2 x3 t0 t1 t2 t3 t4 t5), .int (own_v4_138 x0 x1 x2 x3 t0 t1 t2 t3 t4 t5), .int (own_v4_139 x0 x1 x2 x3 t0 t1 t2 t3 t4 t5), .int (own_v4_140 x0 x1 x2 x3 t0 t1 t2 t3 t4 t5)] := by rw [own_set6 (own_S4_0 hS)] at A243; exact A243
  have V244 := V235.other W242 ne_a2_a1
  have K245 := K236.wr W242 (Or.inl (List.mem_of_getElem? (i := 0) rfl))
  have N246 := Fr.snoc X239 N237 G_a1
  refine own_retV X239 hx hlk (rest := []) Bd.returns (hb hby own_d2_42) ?_ (by decide) (by decide)
  show own_Q2_4 Z a1 a2 t0 t1 t2 t3 t4 t5 x0 x1 x2 x3 h0 n0 _ T238.heap _
  rw [e240]
  exact ⟨rfl, N246, K245, A243, V244⟩
theorem own_ef3_k4 (m : MethodId) (a1 : Addr) (a2 : Addr) : entryFrame m #[.ref a1, .ref a2, .int (4 : Int32)] 4 = mkF m 0 #[.val (.ref a1), .val (.ref a2), .val (.int (4 : Int32)), .unset] [] := by first | (simp [entryFrame, mkF, argsToLocals, Value.category]; done) | rfl
theorem own_d3_93 : decode method_4_code 93 = .ok (.aload_n 0, 1) := by decide +kernel
theorem own_d3_94 : decode method_4_code 94 = .ok (.iconst 3, 1) := by decide +kernel
theorem own_d3_95 : decode method_4_code 95 = .ok (.iaload, 1) := by decide +kernel
theorem own_d3_96 : decode method_4_code 96 = .ok (.aload_n 1, 1) := by decide +kernel
theorem own_d3_97 : decode method_4_code 97 = .ok (.iconst 3, 1) := by decide +kernel
theorem own_d3_98 : decode method_4_code 98 = .ok (.iaload, 1) := by decide +kernel
theorem own_d3_99 : decode method_4_code 99 = .ok (.if_icmp .ne 7, 3) := by decide +kernel
theorem own_d3_102 : decode method_4_code 102 = .ok (.iconst 1, 1) := by decide +kernel
theorem own_d3_103 : decode method_4_code 103 = .ok (.goto 4, 3) := by decide +kernel
theorem own_d3_107 : decode method_4_code 107 = .ok (.istore_n 3, 1) := by decide +kernel
def own_f3_4 (x0 : Int32) (x1 : Int32) (x2 : Int32) (x3 : Int32) : Int32 := (1 : Int32)
set_option maxRecDepth 65536 in
set_option maxHeartbeats 40000000 in
theorem rm3_4 (l : Launch) (Z : State) (a0 : Array Value) (hw : ∀ d ∈ tables_1, d.before a0 Z = true) (ws : List Jvm.Cond) (a1 : Addr) (a2 : Addr) (x0 : Int32) (x1 : Int32) (x2 : Int32) (x3 : Int32) (h0 : Heap) (V0p : own_A Z h0 a1 .int [.int x0, .int x1, .int x2, .int x3]) (V1p : own_A Z h0 a2 .int [.int x0, .int x1, .int x2, .int x3, .int (0 : Int32), .int (0 : Int32)]) :
    MetFree l (⟨"com/example/tourloom/tourloom/GeneticOperatorsShiftRoundPinLaw", "risingKept", "([I[II)Z"⟩ : MethodName) (head1 (Jvm.Cond.code (⟨"com/example/tourloom/tourloom/GeneticOperatorsShiftRoundPinLaw", "risingKept", "([I[II)Z"⟩ : MethodName) method_4_code 4 (some .boolean) :: ws) ({ frames := 0, cells := 0, slots := 0, locals := 0 } : Room)) (fun a U => a = #[.ref a1, .ref a2, .int (4 : Int32)] ∧ Z.Warmed39 U.vm ∧ U.heap = h0) (fun _ _ _ _ _ => True) (fun _ U o U' => ∃ v L, o = .returned v ∧ own_P (.int (own_f3_4 x0 x1 x2 x3)) h0 v U'.heap L ∧ FrameEnd U o U' L ({ frames := 0, cells := 0, slots := 0, locals := 0 } : Room).cells ({ frames := 0, cells := 0, slots := 0, locals := 0 } : Room).slots) := by
  refine MetFree.of_bodySF (plainFor_of_name own_pn0) hisR ?_
  intro p e s m args below meth c s₁ Bd hml0 hP hK
  obtain ⟨rfl, hZ, hh⟩ := hP
  have hx := Bd.exec
  have hby := Bd.bytes
  have hml : c.maxLocals = 4 := hml0
  have hown : s.vm.findClass "com/example/tourloom/tourloom/GeneticOperatorsShiftRoundPinLaw" = some m.cls := findClass_of_methodNamed Bd.named
  have hnm := (name_of_methodNamed Bd.named Bd.method).1
  have hlk : meth.locks = false := BodyLoose.notSynchronized Bd
  have X0 : Stand p l e ({ frames := 0, cells := 0, slots := 0, locals := 0 } : Room) s m #[.ref a1, .ref a2, .int (4 : Int32)] below meth c s₁ [] 0 0 := Stand.of_body Bd
  have e0 : s₁.heap = h0 := by rw [← hh, Bd.state]; rfl
  show own_Go p e below (own_E s 0 0 (own_P (.int (own_f3_4 x0 x1 x2 x3)) h0)) (s₁.setTop (entryFrame m #[.ref a1, .ref a2, .int (4 : Int32)] 4))
  rw [own_ef3_k4]
  refine own_aloadN X0 hx (hb hby own_d3_0) (q := 1) rfl rfl rfl ?_
  refine own_alen X0 hx hZ (n := (4 : Int32)) e0 V0p rfl (hb hby own_d3_1) (q := 2) rfl ?_
  refine own_iloadN X0 hx (hb hby own_d3_2) (q := 3) rfl rfl ?_
  refine own_icmpM X0 hx (hb hby own_d3_3) (cd := .ne) (x := (4 : Int32)) (y := (4 : Int32)) (pt := 10) (q := 6) (by decide) (by decide) rfl rfl (fun h => False.elim (h ((by decide) : (4 : Int32) = (4 : Int32)))) (fun _ => ?_)
  refine own_iconst X0 hx (v := (1 : Int32)) (hb hby own_d3_6) (q := 7) rfl rfl ?_
  refine own_goto X0 hx (hb hby own_d3_7) (q := 11) (by decide) (by decide) ?_
  refine own_istoreN (L' := #[.val (.ref a1), .val (.ref a2), .val (.int (4 : Int32)), .val (.int (1 : Int32))]) X0 hx (hb hby own_d3_11) (q := 12) rfl rfl ?_
  refine own_iloadN X0 hx (hb hby own_d3_12) (q := 13) rfl rfl ?_
  refine own_if0P X0 hx (hb hby own_d3_13) (cd := .eq) (x := (1 : Int32)) (pt := 36) (q := 16) (by decide) (by decide) rfl rfl (fun h => False.elim (((by decide) : ¬ ((1 : Int32) = (0 : Int32))) h)) (fun _ => ?_)
  refine own_iloadN X0 hx (hb hby own_d3_16) (q := 17) rfl rfl ?_
  refine own_iconst X0 hx (v := (1 : Int32)) (hb hby own_d3_17) (q := 18) rfl rfl ?_
  refine own_icmpP X0 hx (hb hby own_d3_18) (cd := .lt) (x := (4 : Int32)) (y := (1 : Int32)) (pt := 36) (q := 21) (by decide) (by decide) rfl rfl (fun h => False.elim (((by decide) : ¬ ((4 : Int32) < (1 : Int32))) h)) (fun _ => ?_)
  refine own_aloadN X0 hx (hb hby own_d3_21) (q := 22) rfl rfl rfl ?_
  refine own_iconst X0 hx (v := (0 : Int32)) (hb hby own_d3_22) (q := 23) rfl rfl ?_
  refine own_iaload X0 hx hZ (i := 0) (v := .int x0) e0 V0p (by decide) (by decide) rfl (hb hby own_d3_23) (q := 24) rfl ?_
  refine own_aloadN X0 hx (hb hby own_d3_24) (q := 25) rfl rfl rfl ?_
  refine own_iconst X0 hx (v := (0 : Int32)) (hb hby own_d3_25) (q := 26) rfl rfl ?_
  refine own_iaload X0 hx hZ (i := 0) (v := .int x0) e0 V1p (by decide) (by decide) rfl (hb hby own_d3_26) (q := 27) rfl ?_
  refine own_icmpM X0 hx (hb hby own_d3_27) (cd := .ne) (x := x0) (y := x0) (pt := 34) (q := 30) (by decide) (by decide) rfl rfl (fun h => False.elim (h (rfl : x0 = x0))) (fun _ => ?_)
  refine own_iconst X0 hx (v := (1 : Int32)) (hb hby own_d3_30) (q := 31) rfl rfl ?_
  refine own_goto X0 hx (hb hby own_d3_31) (q := 35) (by decide) (by decide) ?_
  refine own_istoreN (L' := #[.val (.ref a1), .val (.ref a2), .val (.int (4 : Int32)), .val (.int (1 : Int32))]) X0 hx (hb hby own_d3_35) (q := 36) rfl rfl ?_
  refine own_iloadN X0 hx (hb hby own_d3_36) (q := 37) rfl rfl ?_
  refine own_if0P X0 hx (hb hby own_d3_37) (cd := .eq) (x := (1 : Int32)) (pt := 60) (q := 40) (by decide) (by decide) rfl rfl (fun h => False.elim (((by decide) : ¬ ((1 : Int32) = (0 : Int32))) h)) (fun _ => ?_)
  refine own_iloadN X0 hx (hb hby own_d3_40) (q := 41) rfl rfl ?_
  refine own_iconst X0 hx (v := (2 : Int32)) (hb hby own_d3_41) (q := 42) rfl rfl ?_
  refine own_icmpP X0 hx (hb hby own_d3_42) (cd := .lt) (x := (4 : Int32)) (y := (2 : Int32)) (pt := 60) (q := 45) (by decide) (by decide) rfl rfl (fun h => False.elim (((by decide) : ¬ ((4 : Int32) < (2 : Int32))) h)) (fun _ => ?_)
  refine own_aloadN X0 hx (hb hby own_d3_45) (q := 46) rfl rfl rfl ?_
  refine own_iconst X0 hx (v := (1 : Int32)) (hb hby own_d3_46) (q := 47) rfl rfl ?_
  refine own_iaload X0 hx hZ (i := 1) (v := .int x1) e0 V0p (by decide) (by decide) rfl (hb hby own_d3_47) (q := 48) rfl ?_
  refine own_aloadN X0 hx (hb hby own_d3_48) (q := 49) rfl rfl rfl ?_
  refine own_iconst X0 hx (v := (1 : Int32)) (hb hby own_d3_49) (q := 50) rfl rfl ?_
  refine own_iaload X0 hx hZ (i := 1) (v := .int x1) e0 V1p (by decide) (by decide) rfl (hb hby own_d3_50) (q := 51) rfl ?_
  refine own_icmpM X0 hx (hb hby own_d3_51) (cd := .ne) (x := x1) (y := x1) (pt := 58) (q := 54) (by decide) (by decide) rfl rfl (fun h => False.elim (h (rfl : x1 = x1))) (fun _ => ?_)
  refine own_iconst X0 hx (v := (1 : Int32)) (hb hby own_d3_54) (q := 55) rfl rfl ?_
  refine own_goto X0 hx (hb hby own_d3_55) (q := 59) (by decide) (by decide) ?_
  refine own_istoreN (L' := #[.val (.ref a1), .val (.ref a2), .val (.int (4 : Int32)), .val (.int (1 : Int32))]) X0 hx (hb hby own_d3_59) (q := 60) rfl rfl ?_
  refine own_iloadN X0 hx (hb hby own_d3_60) (q := 61) rfl rfl ?_
  refine own_if0P X0 hx (hb hby own_d3_61) (cd := .eq) (x := (1 : Int32)) (pt := 84) (q := 64) (by decide) (by decide) rfl rfl (fun h => False.elim (((by decide) : ¬ ((1 : Int32) = (0 : Int32))) h)) (fun _ => ?_)
  refine own_iloadN X0 hx (hb hby own_d3_64) (q := 65) rfl rfl ?_
  refine own_iconst X0 hx (v := (3 : Int32)) (hb hby own_d3_65) (q := 66) rfl rfl ?_
  refine own_icmpP X0 hx (hb hby own_d3_66) (cd := .lt) (x := (4 : Int32)) (y := (3 : Int32)) (pt := 84) (q := 69) (by decide) (by decide) rfl rfl (fun h => False.elim (((by decide) : ¬ ((4 : Int32) < (3 : Int32))) h)) (fun _ => ?_)
  refine own_aloadN X0 hx (hb hby own_d3_69) (q := 70) rfl rfl rfl ?_
  refine own_iconst X0 hx (v := (2 : Int32)) (hb hby own_d3_70) (q := 71) rfl rfl ?_
  refine own_iaload X0 hx hZ (i := 2) (v := .int x2) e0 V0p (by decide) (by decide) rfl (hb hby own_d3_71) (q := 72) rfl ?_
  refine own_aloadN X0 hx (hb hby own_d3_72) (q := 73) rfl rfl rfl ?_
  refine own_iconst X0 hx (v := (2 : Int32)) (hb hby own_d3_73) (q := 74) rfl rfl ?_
  refine own_iaload X0 hx hZ (i := 2) (v := .int x2) e0 V1p (by decide) (by decide) rfl (hb hby own_d3_74) (q := 75) rfl ?_
  refine own_icmpM X0 hx (hb hby own_d3_75) (cd := .ne) (x := x2) (y := x2) (pt := 82) (q := 78) (by decide) (by decide) rfl rfl (fun h => False.elim (h (rfl : x2 = x2))) (fun _ => ?_)
  refine own_iconst X0 hx (v := (1 : Int32)) (hb hby own_d3_78) (q := 79) rfl rfl ?_
  refine own_goto X0 hx (hb hby own_d3_79) (q := 83) (by decide) (by decide) ?_
  refine own_istoreN (L' := #[.val (.ref a1), .val (.ref a2), .val (.int (4 : Int32)), .val (.int (1 : Int32))]) X0 hx (hb hby own_d3_83) (q := 84) rfl rfl ?_
  refine own_iloadN X0 hx (hb hby own_d3_84) (q := 85) rfl rfl ?_
  refine own_if0P X0 hx (hb hby own_d3_85) (cd := .eq) (x := (1 : Int32)) (pt := 108) (q := 88) (by decide) (by decide) rfl rfl (fun h => False.elim (((by decide) : ¬ ((1 : Int32) = (0 : Int32))) h)) (fun _ => ?_)
  refine own_iloadN X0 hx (hb hby own_d3_88) (q := 89) rfl rfl ?_
  refine own_iconst X0 hx (v := (4 : Int32)) (hb hby own_d3_89) (q := 90) rfl rfl ?_
  refine own_icmpP X0 hx (hb hby own_d3_90) (cd := .lt) (x := (4 : Int32)) (y := (4 : Int32)) (pt := 108) (q := 93) (by decide) (by decide) rfl rfl (fun h => False.elim (((by decide) : ¬ ((4 : Int32) < (4 : Int32))) h)) (fun _ => ?_)
  refine own_aloadN X0 hx (hb hby own_d3_93) (q := 94) rfl rfl rfl ?_
  refine own_iconst X0 hx (v := (3 : Int32)) (hb hby own_d3_94) (q := 95) rfl rfl ?_
  refine own_iaload X0 hx hZ (i := 3) (v := .int x3) e0 V0p (by decide) (by decide) rfl (hb hby own_d3_95) (q := 96) rfl ?_
  refine own_aloadN X0 hx (hb hby own_d3_96) (q := 97) rfl rfl rfl ?_
  refine own_iconst X0 hx (v := (3 : Int32)) (hb hby own_d3_97) (q := 98) rfl rfl ?_
  refine own_iaload X0 hx hZ (i := 3) (v := .int x3) e0 V1p (by decide) (by decide) rfl (hb hby own_d3_98) (q := 99) rfl ?_
  refine own_icmpM X0 hx (hb hby own_d3_99) (cd := .ne) (x := x3) (y := x3) (pt := 106) (q := 102) (by decide) (by decide) rfl rfl (fun h => False.elim (h (rfl : x3 = x3))) (fun _ => ?_)
  refine own_iconst X0 hx (v := (1 : Int32)) (hb hby own_d3_102) (q := 103) rfl rfl ?_
  refine own_goto X0 hx (hb hby own_d3_103) (q := 107) (by decide) (by decide) ?_
  refine own_istoreN (L' := #[.val (.ref a1), .val (.ref a2), .val (.int (4 : Int32)), .val (.int (1 : Int32))]) X0 hx (hb hby own_d3_107) (q := 108) rfl rfl ?_
  refine own_iloadN X0 hx (hb hby own_d3_108) (q := 109) rfl rfl ?_
  refine own_if0P X0 hx (hb hby own_d3_109) (cd := .eq) (x := (1 : Int32)) (pt := 132) (q := 112) (by decide) (by decide) rfl rfl (fun h => False.elim (((by decide) : ¬ ((1 : Int32) = (0 : Int32))) h)) (fun _ => ?_)
  refine own_iloadN X0 hx (hb hby own_d3_112) (q := 113) rfl rfl ?_
  refine own_iconst X0 hx (v := (5 : Int32)) (hb hby own_d3_113) (q := 114) rfl rfl ?_
  refine own_icmpP X0 hx (hb hby own_d3_114) (cd := .lt) (x := (4 : Int32)) (y := (5 : Int32)) (pt := 132) (q := 117) (by decide) (by decide) rfl rfl (fun _ => ?_) (fun h => False.elim (h ((by decide) : (4 : Int32) < (5 : Int32))))
  refine own_iloadN X0 hx (hb hby own_d3_132) (q := 133) rfl rfl ?_
  refine own_if0P X0 hx (hb hby own_d3_133) (cd := .eq) (x := (1 : Int32)) (pt := 157) (q := 136) (by decide) (by decide) rfl rfl (fun h => False.elim (((by decide) : ¬ ((1 : Int32) = (0 : Int32))) h)) (fun _ => ?_)
  refine own_iloadN X0 hx (hb hby own_d3_136) (q := 137) rfl rfl ?_
  refine own_bipush X0 hx (v := (6 : Int32)) (hb hby own_d3_137) (q := 139) rfl rfl ?_
  refine own_icmpP X0 hx (hb hby own_d3_139) (cd := .lt) (x := (4 : Int32)) (y := (6 : Int32)) (pt := 157) (q := 142) (by decide) (by decide) rfl rfl (fun _ => ?_) (fun h => False.elim (h ((by decide) : (4 : Int32) < (6 : Int32))))
  refine own_iloadN X0 hx (hb hby own_d3_157) (q := 158) rfl rfl ?_
  refine own_retN X0 hx hlk (t := .boolean) (by simp) Bd.returns (hb hby own_d3_158) ?_ (by decide) (by decide)
  have r : own_f3_4 x0 x1 x2 x3 = (1 : Int32) := by rw [own_f3_4]
  exact ⟨by rw [r] <;> rfl, e0, rfl⟩
theorem own_ef1_k5 (m : MethodId) (a1 : Addr) : entryFrame m #[.ref a1, .int (5 : Int32)] 2 = mkF m 0 #[.val (.ref a1), .val (.int (5 : Int32))] [] := by first | (simp [entryFrame, mkF, argsToLocals, Value.category]; done) | rfl
theorem own_d1_96 : decode method_3_code 96 = .ok (.iload_n 1, 1) := by decide +kernel
theorem own_d1_97 : decode method_3_code 97 = .ok (.iconst 5, 1) := by decide +kernel
theorem own_d1_98 : decode method_3_code 98 = .ok (.if_icmp .ne 37, 3) := by decide +kernel
theorem own_d1_101 : decode method_3_code 101 = .ok (.iconst 5, 1) := by decide +kernel
theorem own_d1_102 : decode method_3_code 102 = .ok (.newarray .int, 2) := by decide +kernel
theorem own_d1_104 : decode method_3_code 104 = .ok (.dup, 1) := by decide +kernel
theorem own_d1_105 : decode method_3_code 105 = .ok (.iconst 0, 1) := by decide +kernel
theorem own_d1_106 : decode method_3_code 106 = .ok (.aload_n 0, 1) := by decide +kernel
theorem own_d1_107 : decode method_3_code 107 = .ok (.iconst 0, 1) := by decide +kernel
theorem own_d1_108 : decode method_3_code 108 = .ok (.iaload, 1) := by decide +kernel
theorem own_d1_109 : decode method_3_code 109 = .ok (.iastore, 1) := by decide +kernel
theorem own_d1_110 : decode method_3_code 110 = .ok (.dup, 1) := by decide +kernel
theorem own_d1_111 : decode method_3_code 111 = .ok (.iconst 1, 1) := by decide +kernel
theorem own_d1_112 : decode method_3_code 112 = .ok (.aload_n 0, 1) := by decide +kernel
theorem own_d1_113 : decode method_3_code 113 = .ok (.iconst 1, 1) := by decide +kernel
theorem own_d1_114 : decode method_3_code 114 = .ok (.iaload, 1) := by decide +kernel
theorem own_d1_115 : decode method_3_code 115 = .ok (.iastore, 1) := by decide +kernel
theorem own_d1_116 : decode method_3_code 116 = .ok (.dup, 1) := by decide +kernel
theorem own_d1_117 : decode method_3_code 117 = .ok (.iconst 2, 1) := by decide +kernel
theorem own_d1_118 : decode method_3_code 118 = .ok (.aload_n 0, 1) := by decide +kernel
theorem own_d1_119 : decode method_3_code 119 = .ok (.iconst 2, 1) := by decide +kernel
theorem own_d1_120 : decode method_3_code 120 = .ok (.iaload, 1) := by decide +kernel
theorem own_d1_121 : decode method_3_code 121 = .ok (.iastore, 1) := by decide +kernel
theorem own_d1_122 : decode method_3_code 122 = .ok (.dup, 1) := by decide +kernel
theorem own_d1_123 : decode method_3_code 123 = .ok (.iconst 3, 1) := by decide +kernel
theorem own_d1_124 : decode method_3_code 124 = .ok (.aload_n 0, 1) := by decide +kernel
theorem own_d1_125 : decode method_3_code 125 = .ok (.iconst 3, 1) := by decide +kernel
theorem own_d1_126 : decode method_3_code 126 = .ok (.iaload, 1) := by decide +kernel
theorem own_d1_127 : decode method_3_code 127 = .ok (.iastore, 1) := by decide +kernel
theorem own_d1_128 : decode method_3_code 128 = .ok (.dup, 1) := by decide +kernel
theorem own_d1_129 : decode method_3_code 129 = .ok (.iconst 4, 1) := by decide +kernel
theorem own_d1_130 : decode method_3_code 130 = .ok (.aload_n 0, 1) := by decide +kernel
theorem own_d1_131 : decode method_3_code 131 = .ok (.iconst 4, 1) := by decide +kernel
theorem own_d1_132 : decode method_3_code 132 = .ok (.iaload, 1) := by decide +kernel
theorem own_d1_133 : decode method_3_code 133 = .ok (.iastore, 1) := by decide +kernel
theorem own_d1_134 : decode method_3_code 134 = .ok (.areturn, 1) := by decide +kernel
def own_Q1_5 (Z : State) (a1 : Addr) (x0 : Int32) (x1 : Int32) (x2 : Int32) (x3 : Int32) (x4 : Int32) (h0 : Heap) (n0 : Nat) (v : Option Value) (h : Heap) (L : List Loc) : Prop := ∃ ra0 : Addr, v = some (.ref ra0) ∧ Fr n0 L ∧ Keep h0 h [] ∧ h0.size ≤ ra0 ∧ own_A Z h ra0 .int [.int x0, .int x1, .int x2, .int x3, .int x4]
set_option maxRecDepth 65536 in
set_option maxHeartbeats 40000000 in
theorem rm1_5 (l : Launch) (Z : State) (a0 : Array Value) (hw : ∀ d ∈ tables_1, d.before a0 Z = true) (ws : List Jvm.Cond) (a1 : Addr) (x0 : Int32) (x1 : Int32) (x2 : Int32) (x3 : Int32) (x4 : Int32) (h0 : Heap) (n0 : Nat) (Z0 : n0 ≤ h0.size) (V0p : own_A Z h0 a1 .int [.int x0, .int x1, .int x2, .int x3, .int x4, .int (0 : Int32)]) :
    MetFree l (⟨"com/example/tourloom/tourloom/GeneticOperatorsShiftRoundPinLaw", "pick", "([II)[I"⟩ : MethodName) (head1 (Jvm.Cond.code (⟨"com/example/tourloom/tourloom/GeneticOperatorsShiftRoundPinLaw", "pick", "([II)[I"⟩ : MethodName) method_3_code 2 (some (.array .int)) :: ws) ({ frames := 0, cells := 1, slots := 5, locals := 0 } : Room)) (fun a U => a = #[.ref a1, .int (5 : Int32)] ∧ Z.Warmed39 U.vm ∧ U.heap = h0) (fun _ _ _ _ _ => True) (fun _ U o U' => ∃ v L, o = .returned v ∧ own_Q1_5 Z a1 x0 x1 x2 x3 x4 h0 n0 v U'.heap L ∧ FrameEnd U o U' L ({ frames := 0, cells := 1, slots := 5, locals := 0 } : Room).cells ({ frames := 0, cells := 1, slots := 5, locals := 0 } : Room).slots) := by
  refine MetFree.of_bodySF (plainFor_of_name own_pn0) hisR ?_
  intro p e s m args below meth c s₁ Bd hml0 hP hK
  obtain ⟨rfl, hZ, hh⟩ := hP
  have hx := Bd.exec
  have hby := Bd.bytes
  have hml : c.maxLocals = 2 := hml0
  have hown : s.vm.findClass "com/example/tourloom/tourloom/GeneticOperatorsShiftRoundPinLaw" = some m.cls := findClass_of_methodNamed Bd.named
  have hnm := (name_of_methodNamed Bd.named Bd.method).1
  have hlk : meth.locks = false := BodyLoose.notSynchronized Bd
  have X0 : Stand p l e ({ frames := 0, cells := 1, slots := 5, locals := 0 } : Room) s m #[.ref a1, .int (5 : Int32)] below meth c s₁ [] 0 0 := Stand.of_body Bd
  have e0 : s₁.heap = h0 := by rw [← hh, Bd.state]; rfl
  have N0 := Fr.nil n0
  have K0 := Keep.refl h0 []
  show own_Go p e below (own_E s 1 5 (own_Q1_5 Z a1 x0 x1 x2 x3 x4 h0 n0)) (s₁.setTop (entryFrame m #[.ref a1, .int (5 : Int32)] 2))
  rw [own_ef1_k5]
  refine own_iloadN X0 hx (hb hby own_d1_0) (q := 1) rfl rfl ?_
  refine own_iconst X0 hx (v := (1 : Int32)) (hb hby own_d1_1) (q := 2) rfl rfl ?_
  refine own_icmpM X0 hx (hb hby own_d1_2) (cd := .ne) (x := (5 : Int32)) (y := (1 : Int32)) (pt := 15) (q := 5) (by decide) (by decide) rfl rfl (fun _ => ?_) (fun h => False.elim (((by decide) : ¬ ((5 : Int32) = (1 : Int32))) h))
  refine own_iloadN X0 hx (hb hby own_d1_15) (q := 16) rfl rfl ?_
  refine own_iconst X0 hx (v := (2 : Int32)) (hb hby own_d1_16) (q := 17) rfl rfl ?_
  refine own_icmpM X0 hx (hb hby own_d1_17) (cd := .ne) (x := (5 : Int32)) (y := (2 : Int32)) (pt := 36) (q := 20) (by decide) (by decide) rfl rfl (fun _ => ?_) (fun h => False.elim (((by decide) : ¬ ((5 : Int32) = (2 : Int32))) h))
  refine own_iloadN X0 hx (hb hby own_d1_36) (q := 37) rfl rfl ?_
  refine own_iconst X0 hx (v := (3 : Int32)) (hb hby own_d1_37) (q := 38) rfl rfl ?_
  refine own_icmpM X0 hx (hb hby own_d1_38) (cd := .ne) (x := (5 : Int32)) (y := (3 : Int32)) (pt := 63) (q := 41) (by decide) (by decide) rfl rfl (fun _ => ?_) (fun h => False.elim (((by decide) : ¬ ((5 : Int32) = (3 : Int32))) h))
  refine own_iloadN X0 hx (hb hby own_d1_63) (q := 64) rfl rfl ?_
  refine own_iconst X0 hx (v := (4 : Int32)) (hb hby own_d1_64) (q := 65) rfl rfl ?_
  refine own_icmpM X0 hx (hb hby own_d1_65) (cd := .ne) (x := (5 : Int32)) (y := (4 : Int32)) (pt := 96) (q := 68) (by decide) (by decide) rfl rfl (fun _ => ?_) (fun h => False.elim (((by decide) : ¬ ((5 : Int32) = (4 : Int32))) h))
  refine own_iloadN X0 hx (hb hby own_d1_96) (q := 97) rfl rfl ?_
  refine own_iconst X0 hx (v := (5 : Int32)) (hb hby own_d1_97) (q := 98) rfl rfl ?_
  refine own_icmpM X0 hx (hb hby own_d1_98) (cd := .ne) (x := (5 : Int32)) (y := (5 : Int32)) (pt := 135) (q := 101) (by decide) (by decide) rfl rfl (fun h => False.elim (h ((by decide) : (5 : Int32) = (5 : Int32)))) (fun _ => ?_)
  refine own_iconst X0 hx (v := (5 : Int32)) (hb hby own_d1_101) (q := 102) rfl rfl ?_
  refine own_newA X0 hx hZ (aty := .int) (ty := .int) (k := 5) (cap := 5) rfl (hw _ (List.mem_of_getElem? (i := 1) rfl)) e0 (by decide) (by decide) (by decide) (by decide) (by decide) (by decide) (hb hby own_d1_102) (q := 104) rfl (fun T247 h250 a251 X248 e249 g252 E253 A254 => ?_)
  have O255 : h0.size ≤ a251 := by rw [g252]; exact K0.1
  have V256 := V0p.ext E253
  have K257 := K0.ext E253
  have ne258 : a1 ≠ a251 := by rw [g252]; exact Nat.ne_of_lt V0p.lt
  have Z259 : n0 ≤ a251 := by rw [g252]; exact Z0
  have Z260 : n0 ≤ h250.size := Nat.le_trans Z0 E253.1
  replace A254 : own_A Z h250 a251 .int [.int (0 : Int32), .int (0 : Int32), .int (0 : Int32), .int (0 : Int32), .int (0 : Int32)] := A254
  refine own_dup X248 hx (hb hby own_d1_104) (q := 105) rfl rfl ?_
  refine own_iconst X248 hx (v := (0 : Int32)) (hb hby own_d1_105) (q := 106) rfl rfl ?_
  refine own_aloadN X248 hx (hb hby own_d1_106) (q := 107) rfl rfl rfl ?_
  refine own_iconst X248 hx (v := (0 : Int32)) (hb hby own_d1_107) (q := 108) rfl rfl ?_
  refine own_iaload X248 hx hZ (i := 0) (v := .int x0) e249 V256 (by decide) (by decide) rfl (hb hby own_d1_108) (q := 109) rfl ?_
  refine own_iastore X248 hx hZ (i := 0) e249 A254 (by decide) (by decide) (Nat.le_of_ble_eq_true rfl) (hb hby own_d1_109) (q := 110) rfl (fun T261 h264 X262 e263 W265 A266 => ?_)
  replace A266 : own_A Z h264 a251 .int [.int x0, .int (0 : Int32), .int (0 : Int32), .int (0 : Int32), .int (0 : Int32)] := A266
  have V267 := V256.other W265 ne258
  have K268 := K257.wr W265 (Or.inr O255)
  have Z269 : n0 ≤ h264.size := W265.size ▸ Z260
  have N270 := Fr.snoc X262 N0 Z259
  refine own_dup X262 hx (hb hby own_d1_110) (q := 111) rfl rfl ?_
  refine own_iconst X262 hx (v := (1 : Int32)) (hb hby own_d1_111) (q := 112) rfl rfl ?_
  refine own_aloadN X262 hx (hb hby own_d1_112) (q := 113) rfl rfl rfl ?_
  refine own_iconst X262 hx (v := (1 : Int32)) (hb hby own_d1_113) (q := 114) rfl rfl ?_
  refine own_iaload X262 hx hZ (i := 1) (v := .int x1) e263 V267 (by decide) (by decide) rfl (hb hby own_d1_114) (q := 115) rfl ?_
  refine own_iastore X262 hx hZ (i := 1) e263 A266 (by decide) (by decide) (Nat.le_of_ble_eq_true rfl) (hb hby own_d1_115) (q := 116) rfl (fun T271 h274 X272 e273 W275 A276 => ?_)
  replace A276 : own_A Z h274 a251 .int [.int x0, .int x1, .int (0 : Int32), .int (0 : Int32), .int (0 : Int32)] := A276
  have V277 := V267.other W275 ne258
  have K278 := K268.wr W275 (Or.inr O255)
  have Z279 : n0 ≤ h274.size := W275.size ▸ Z269
  have N280 := Fr.snoc X272 N270 Z259
  refine own_dup X272 hx (hb hby own_d1_116) (q := 117) rfl rfl ?_
  refine own_iconst X272 hx (v := (2 : Int32)) (hb hby own_d1_117) (q := 118) rfl rfl ?_
  refine own_aloadN X272 hx (hb hby own_d1_118) (q := 119) rfl rfl rfl ?_
  refine own_iconst X272 hx (v := (2 : Int32)) (hb hby own_d1_119) (q := 120) rfl rfl ?_
  refine own_iaload X272 hx hZ (i := 2) (v := .int x2) e273 V277 (by decide) (by decide) rfl (hb hby own_d1_120) (q := 121) rfl ?_
  refine own_iastore X272 hx hZ (i := 2) e273 A276 (by decide) (by decide) (Nat.le_of_ble_eq_true rfl) (hb hby own_d1_121) (q := 122) rfl (fun T281 h284 X282 e283 W285 A286 => ?_)
  replace A286 : own_A Z h284 a251 .int [.int x0, .int x1, .int x2, .int (0 : Int32), .int (0 : Int32)] := A286
  have V287 := V277.other W285 ne258
  have K288 := K278.wr W285 (Or.inr O255)
  have Z289 : n0 ≤ h284.size := W285.size ▸ Z279
  have N290 := Fr.snoc X282 N280 Z259
  refine own_dup X282 hx (hb hby own_d1_122) (q := 123) rfl rfl ?_
  refine own_iconst X282 hx (v := (3 : Int32)) (hb hby own_d1_123) (q := 124) rfl rfl ?_
  refine own_aloadN X282 hx (hb hby own_d1_124) (q := 125) rfl rfl rfl ?_
  refine own_iconst X282 hx (v := (3 : Int32)) (hb hby own_d1_125) (q := 126) rfl rfl ?_
  refine own_iaload X282 hx hZ (i := 3) (v := .int x3) e283 V287 (by decide) (by decide) rfl (hb hby own_d1_126) (q := 127) rfl ?_
  refine own_iastore X282 hx hZ (i := 3) e283 A286 (by decide) (by decide) (Nat.le_of_ble_eq_true rfl) (hb hby own_d1_127) (q := 128) rfl (fun T291 h294 X292 e293 W295 A296 => ?_)
  replace A296 : own_A Z h294 a251 .int [.int x0, .int x1, .int x2, .int x3, .int (0 : Int32)] := A296
  have V297 := V287.other W295 ne258
  have K298 := K288.wr W295 (Or.inr O255)
  have Z299 : n0 ≤ h294.size := W295.size ▸ Z289
  have N300 := Fr.snoc X292 N290 Z259
  refine own_dup X292 hx (hb hby own_d1_128) (q := 129) rfl rfl ?_
  refine own_iconst X292 hx (v := (4 : Int32)) (hb hby own_d1_129) (q := 130) rfl rfl ?_
  refine own_aloadN X292 hx (hb hby own_d1_130) (q := 131) rfl rfl rfl ?_
  refine own_iconst X292 hx (v := (4 : Int32)) (hb hby own_d1_131) (q := 132) rfl rfl ?_
  refine own_iaload X292 hx hZ (i := 4) (v := .int x4) e293 V297 (by decide) (by decide) rfl (hb hby own_d1_132) (q := 133) rfl ?_
  refine own_iastore X292 hx hZ (i := 4) e293 A296 (by decide) (by decide) (Nat.le_of_ble_eq_true rfl) (hb hby own_d1_133) (q := 134) rfl (fun T301 h304 X302 e303 W305 A306 => ?_)
  replace A306 : own_A Z h304 a251 .int [.int x0, .int x1, .int x2, .int x3, .int x4] := A306
  have V307 := V297.other W305 ne258
  have K308 := K298.wr W305 (Or.inr O255)
  have Z309 : n0 ≤ h304.size := W305.size ▸ Z299
  have N310 := Fr.snoc X302 N300 Z259
  refine own_retA X302 hx hlk rfl rfl rfl Bd.returns (hb hby own_d1_134) ?_ (by decide) (by decide)
  show own_Q1_5 Z a1 x0 x1 x2 x3 x4 h0 n0 _ T301.heap _
  rw [e303]
  exact ⟨a251, rfl, N310, K308, O255, A306⟩
def own_v5_141 (x0 x1 x2 x3 x4 t0 t1 t2 t3 t4 t5 : Int32) : Int32 := own_cat6 t0 t1 t2 t3 t4 t5 x4
def own_v5_142 (x0 x1 x2 x3 x4 t0 t1 t2 t3 t4 t5 : Int32) : Int32 := own_cat6 t0 t1 t2 t3 t4 t5 x3
def own_v5_143 (x0 x1 x2 x3 x4 t0 t1 t2 t3 t4 t5 : Int32) : Int32 := own_up x4 0 (own_v5_142 x0 x1 x2 x3 x4 t0 t1 t2 t3 t4 t5) t0
def own_v5_144 (x0 x1 x2 x3 x4 t0 t1 t2 t3 t4 t5 : Int32) : Int32 := own_up x4 1 (own_v5_142 x0 x1 x2 x3 x4 t0 t1 t2 t3 t4 t5) t1
def own_v5_145 (x0 x1 x2 x3 x4 t0 t1 t2 t3 t4 t5 : Int32) : Int32 := own_up x4 2 (own_v5_142 x0 x1 x2 x3 x4 t0 t1 t2 t3 t4 t5) t2
def own_v5_146 (x0 x1 x2 x3 x4 t0 t1 t2 t3 t4 t5 : Int32) : Int32 := own_up x4 3 (own_v5_142 x0 x1 x2 x3 x4 t0 t1 t2 t3 t4 t5) t3
def own_v5_147 (x0 x1 x2 x3 x4 t0 t1 t2 t3 t4 t5 : Int32) : Int32 := own_up x4 4 (own_v5_142 x0 x1 x2 x3 x4 t0 t1 t2 t3 t4 t5) t4
def own_v5_148 (x0 x1 x2 x3 x4 t0 t1 t2 t3 t4 t5 : Int32) : Int32 := own_up x4 5 (own_v5_142 x0 x1 x2 x3 x4 t0 t1 t2 t3 t4 t5) t5
def own_v5_149 (x0 x1 x2 x3 x4 t0 t1 t2 t3 t4 t5 : Int32) : Int32 := own_cat6 (own_v5_143 x0 x1 x2 x3 x4 t0 t1 t2 t3 t4 t5) (own_v5_144 x0 x1 x2 x3 x4 t0 t1 t2 t3 t4 t5) (own_v5_145 x0 x1 x2 x3 x4 t0 t1 t2 t3 t4 t5) (own_v5_146 x0 x1 x2 x3 x4 t0 t1 t2 t3 t4 t5) (own_v5_147 x0 x1 x2 x3 x4 t0 t1 t2 t3 t4 t5) (own_v5_148 x0 x1 x2 x3 x4 t0 t1 t2 t3 t4 t5) x2
def own_v5_150 (x0 x1 x2 x3 x4 t0 t1 t2 t3 t4 t5 : Int32) : Int32 := own_up x3 0 (own_v5_149 x0 x1 x2 x3 x4 t0 t1 t2 t3 t4 t5) (own_v5_143 x0 x1 x2 x3 x4 t0 t1 t2 t3 t4 t5)
def own_v5_151 (x0 x1 x2 x3 x4 t0 t1 t2 t3 t4 t5 : Int32) : Int32 := own_up x3 1 (own_v5_149 x0 x1 x2 x3 x4 t0 t1 t2 t3 t4 t5) (own_v5_144 x0 x1 x2 x3 x4 t0 t1 t2 t3 t4 t5)
def own_v5_152 (x0 x1 x2 x3 x4 t0 t1 t2 t3 t4 t5 : Int32) : Int32 := own_up x3 2 (own_v5_149 x0 x1 x2 x3 x4 t0 t1 t2 t3 t4 t5) (own_v5_145 x0 x1 x2 x3 x4 t0 t1 t2 t3 t4 t5)
def own_v5_153 (x0 x1 x2 x3 x4 t0 t1 t2 t3 t4 t5 : Int32) : Int32 := own_up x3 3 (own_v5_149 x0 x1 x2 x3 x4 t0 t1 t2 t3 t4 t5) (own_v5_146 x0 x1 x2 x3 x4 t0 t1 t2 t3 t4 t5)
def own_v5_154 (x0 x1 x2 x3 x4 t0 t1 t2 t3 t4 t5 : Int32) : Int32 := own_up x3 4 (own_v5_149 x0 x1 x2 x3 x4 t0 t1 t2 t3 t4 t5) (own_v5_147 x0 x1 x2 x3 x4 t0 t1 t2 t3 t4 t5)
def own_v5_155 (x0 x1 x2 x3 x4 t0 t1 t2 t3 t4 t5 : Int32) : Int32 := own_up x3 5 (own_v5_149 x0 x1 x2 x3 x4 t0 t1 t2 t3 t4 t5) (own_v5_148 x0 x1 x2 x3 x4 t0 t1 t2 t3 t4 t5)
def own_v5_156 (x0 x1 x2 x3 x4 t0 t1 t2 t3 t4 t5 : Int32) : Int32 := own_cat6 (own_v5_150 x0 x1 x2 x3 x4 t0 t1 t2 t3 t4 t5) (own_v5_151 x0 x1 x2 x3 x4 t0 t1 t2 t3 t4 t5) (own_v5_152 x0 x1 x2 x3 x4 t0 t1 t2 t3 t4 t5) (own_v5_153 x0 x1 x2 x3 x4 t0 t1 t2 t3 t4 t5) (own_v5_154 x0 x1 x2 x3 x4 t0 t1 t2 t3 t4 t5) (own_v5_155 x0 x1 x2 x3 x4 t0 t1 t2 t3 t4 t5) x1
def own_v5_157 (x0 x1 x2 x3 x4 t0 t1 t2 t3 t4 t5 : Int32) : Int32 := own_up x2 0 (own_v5_156 x0 x1 x2 x3 x4 t0 t1 t2 t3 t4 t5) (own_v5_150 x0 x1 x2 x3 x4 t0 t1 t2 t3 t4 t5)
def own_v5_158 (x0 x1 x2 x3 x4 t0 t1 t2 t3 t4 t5 : Int32) : Int32 := own_up x2 1 (own_v5_156 x0 x1 x2 x3 x4 t0 t1 t2 t3 t4 t5) (own_v5_151 x0 x1 x2 x3 x4 t0 t1 t2 t3 t4 t5)
def own_v5_159 (x0 x1 x2 x3 x4 t0 t1 t2 t3 t4 t5 : Int32) : Int32 := own_up x2 2 (own_v5_156 x0 x1 x2 x3 x4 t0 t1 t2 t3 t4 t5) (own_v5_152 x0 x1 x2 x3 x4 t0 t1 t2 t3 t4 t5)
def own_v5_160 (x0 x1 x2 x3 x4 t0 t1 t2 t3 t4 t5 : Int32) : Int32 := own_up x2 3 (own_v5_156 x0 x1 x2 x3 x4 t0 t1 t2 t3 t4 t5) (own_v5_153 x0 x1 x2 x3 x4 t0 t1 t2 t3 t4 t5)
def own_v5_161 (x0 x1 x2 x3 x4 t0 t1 t2 t3 t4 t5 : Int32) : Int32 := own_up x2 4 (own_v5_156 x0 x1 x2 x3 x4 t0 t1 t2 t3 t4 t5) (own_v5_154 x0 x1 x2 x3 x4 t0 t1 t2 t3 t4 t5)
def own_v5_162 (x0 x1 x2 x3 x4 t0 t1 t2 t3 t4 t5 : Int32) : Int32 := own_up x2 5 (own_v5_156 x0 x1 x2 x3 x4 t0 t1 t2 t3 t4 t5) (own_v5_155 x0 x1 x2 x3 x4 t0 t1 t2 t3 t4 t5)
def own_v5_163 (x0 x1 x2 x3 x4 t0 t1 t2 t3 t4 t5 : Int32) : Int32 := own_cat6 (own_v5_157 x0 x1 x2 x3 x4 t0 t1 t2 t3 t4 t5) (own_v5_158 x0 x1 x2 x3 x4 t0 t1 t2 t3 t4 t5) (own_v5_159 x0 x1 x2 x3 x4 t0 t1 t2 t3 t4 t5) (own_v5_160 x0 x1 x2 x3 x4 t0 t1 t2 t3 t4 t5) (own_v5_161 x0 x1 x2 x3 x4 t0 t1 t2 t3 t4 t5) (own_v5_162 x0 x1 x2 x3 x4 t0 t1 t2 t3 t4 t5) x0
def own_v5_164 (x0 x1 x2 x3 x4 t0 t1 t2 t3 t4 t5 : Int32) : Int32 := own_up x1 0 (own_v5_163 x0 x1 x2 x3 x4 t0 t1 t2 t3 t4 t5) (own_v5_157 x0 x1 x2 x3 x4 t0 t1 t2 t3 t4 t5)
def own_v5_165 (x0 x1 x2 x3 x4 t0 t1 t2 t3 t4 t5 : Int32) : Int32 := own_up x1 1 (own_v5_163 x0 x1 x2 x3 x4 t0 t1 t2 t3 t4 t5) (own_v5_158 x0 x1 x2 x3 x4 t0 t1 t2 t3 t4 t5)
def own_v5_166 (x0 x1 x2 x3 x4 t0 t1 t2 t3 t4 t5 : Int32) : Int32 := own_up x1 2 (own_v5_163 x0 x1 x2 x3 x4 t0 t1 t2 t3 t4 t5) (own_v5_159 x0 x1 x2 x3 x4 t0 t1 t2 t3 t4 t5)
def own_v5_167 (x0 x1 x2 x3 x4 t0 t1 t2 t3 t4 t5 : Int32) : Int32 := own_up x1 3 (own_v5_163 x0 x1 x2 x3 x4 t0 t1 t2 t3 t4 t5) (own_v5_160 x0 x1 x2 x3 x4 t0 t1 t2 t3 t4 t5)
def own_v5_168 (x0 x1 x2 x3 x4 t0 t1 t2 t3 t4 t5 : Int32) : Int32 := own_up x1 4 (own_v5_163 x0 x1 x2 x3 x4 t0 t1 t2 t3 t4 t5) (own_v5_161 x0 x1 x2 x3 x4 t0 t1 t2 t3 t4 t5)
def own_v5_169 (x0 x1 x2 x3 x4 t0 t1 t2 t3 t4 t5 : Int32) : Int32 := own_up x1 5 (own_v5_163 x0 x1 x2 x3 x4 t0 t1 t2 t3 t4 t5) (own_v5_162 x0 x1 x2 x3 x4 t0 t1 t2 t3 t4 t5)
def own_v5_170 (x0 x1 x2 x3 x4 t0 t1 t2 t3 t4 t5 : Int32) : Int32 := own_up x0 0 (own_v5_141 x0 x1 x2 x3 x4 t0 t1 t2 t3 t4 t5) (own_v5_164 x0 x1 x2 x3 x4 t0 t1 t2 t3 t4 t5)
def own_v5_171 (x0 x1 x2 x3 x4 t0 t1 t2 t3 t4 t5 : Int32) : Int32 := own_up x0 1 (own_v5_141 x0 x1 x2 x3 x4 t0 t1 t2 t3 t4 t5) (own_v5_165 x0 x1 x2 x3 x4 t0 t1 t2 t3 t4 t5)
def own_v5_172 (x0 x1 x2 x3 x4 t0 t1 t2 t3 t4 t5 : Int32) : Int32 := own_up x0 2 (own_v5_141 x0 x1 x2 x3 x4 t0 t1 t2 t3 t4 t5) (own_v5_166 x0 x1 x2 x3 x4 t0 t1 t2 t3 t4 t5)
def own_v5_173 (x0 x1 x2 x3 x4 t0 t1 t2 t3 t4 t5 : Int32) : Int32 := own_up x0 3 (own_v5_141 x0 x1 x2 x3 x4 t0 t1 t2 t3 t4 t5) (own_v5_167 x0 x1 x2 x3 x4 t0 t1 t2 t3 t4 t5)
def own_v5_174 (x0 x1 x2 x3 x4 t0 t1 t2 t3 t4 t5 : Int32) : Int32 := own_up x0 4 (own_v5_141 x0 x1 x2 x3 x4 t0 t1 t2 t3 t4 t5) (own_v5_168 x0 x1 x2 x3 x4 t0 t1 t2 t3 t4 t5)
def own_v5_175 (x0 x1 x2 x3 x4 t0 t1 t2 t3 t4 t5 : Int32) : Int32 := own_up x0 5 (own_v5_141 x0 x1 x2 x3 x4 t0 t1 t2 t3 t4 t5) (own_v5_169 x0 x1 x2 x3 x4 t0 t1 t2 t3 t4 t5)
def own_v5_176 (x0 x1 x2 x3 x4 t0 t1 t2 t3 t4 t5 : Int32) : Int32 := own_cat6 t0 t1 t2 t3 t4 t5 x4
def own_v5_177 (x0 x1 x2 x3 x4 t0 t1 t2 t3 t4 t5 : Int32) : Int32 := own_cat6 t0 t1 t2 t3 t4 t5 x3
def own_v5_178 (x0 x1 x2 x3 x4 t0 t1 t2 t3 t4 t5 : Int32) : Int32 := own_up x4 0 (own_v5_177 x0 x1 x2 x3 x4 t0 t1 t2 t3 t4 t5) t0
def own_v5_179 (x0 x1 x2 x3 x4 t0 t1 t2 t3 t4 t5 : Int32) : Int32 := own_up x4 1 (own_v5_177 x0 x1 x2 x3 x4 t0 t1 t2 t3 t4 t5) t1
def own_v5_180 (x0 x1 x2 x3 x4 t0 t1 t2 t3 t4 t5 : Int32) : Int32 := own_up x4 2 (own_v5_177 x0 x1 x2 x3 x4 t0 t1 t2 t3 t4 t5) t2
def own_v5_181 (x0 x1 x2 x3 x4 t0 t1 t2 t3 t4 t5 : Int32) : Int32 := own_up x4 3 (own_v5_177 x0 x1 x2 x3 x4 t0 t1 t2 t3 t4 t5) t3
def own_v5_182 (x0 x1 x2 x3 x4 t0 t1 t2 t3 t4 t5 : Int32) : Int32 := own_up x4 4 (own_v5_177 x0 x1 x2 x3 x4 t0 t1 t2 t3 t4 t5) t4
def own_v5_183 (x0 x1 x2 x3 x4 t0 t1 t2 t3 t4 t5 : Int32) : Int32 := own_up x4 5 (own_v5_177 x0 x1 x2 x3 x4 t0 t1 t2 t3 t4 t5) t5
def own_v5_184 (x0 x1 x2 x3 x4 t0 t1 t2 t3 t4 t5 : Int32) : Int32 := own_cat6 (own_v5_178 x0 x1 x2 x3 x4 t0 t1 t2 t3 t4 t5) (own_v5_179 x0 x1 x2 x3 x4 t0 t1 t2 t3 t4 t5) (own_v5_180 x0 x1 x2 x3 x4 t0 t1 t2 t3 t4 t5) (own_v5_181 x0 x1 x2 x3 x4 t0 t1 t2 t3 t4 t5) (own_v5_182 x0 x1 x2 x3 x4 t0 t1 t2 t3 t4 t5) (own_v5_183 x0 x1 x2 x3 x4 t0 t1 t2 t3 t4 t5) x2
def own_v5_185 (x0 x1 x2 x3 x4 t0 t1 t2 t3 t4 t5 : Int32) : Int32 := own_up x3 0 (own_v5_184 x0 x1 x2 x3 x4 t0 t1 t2 t3 t4 t5) (own_v5_178 x0 x1 x2 x3 x4 t0 t1 t2 t3 t4 t5)
def own_v5_186 (x0 x1 x2 x3 x4 t0 t1 t2 t3 t4 t5 : Int32) : Int32 := own_up x3 1 (own_v5_184 x0 x1 x2 x3 x4 t0 t1 t2 t3 t4 t5) (own_v5_179 x0 x1 x2 x3 x4 t0 t1 t2 t3 t4 t5)
def own_v5_187 (x0 x1 x2 x3 x4 t0 t1 t2 t3 t4 t5 : Int32) : Int32 := own_up x3 2 (own_v5_184 x0 x1 x2 x3 x4 t0 t1 t2 t3 t4 t5) (own_v5_180 x0 x1 x2 x3 x4 t0 t1 t2 t3 t4 t5)
def own_v5_188 (x0 x1 x2 x3 x4 t0 t1 t2 t3 t4 t5 : Int32) : Int32 := own_up x3 3 (own_v5_184 x0 x1 x2 x3 x4 t0 t1 t2 t3 t4 t5) (own_v5_181 x0 x1 x2 x3 x4 t0 t1 t2 t3 t4 t5)
def own_v5_189 (x0 x1 x2 x3 x4 t0 t1 t2 t3 t4 t5 : Int32) : Int32 := own_up x3 4 (own_v5_184 x0 x1 x2 x3 x4 t0 t1 t2 t3 t4 t5) (own_v5_182 x0 x1 x2 x3 x4 t0 t1 t2 t3 t4 t5)
def own_v5_190 (x0 x1 x2 x3 x4 t0 t1 t2 t3 t4 t5 : Int32) : Int32 := own_up x3 5 (own_v5_184 x0 x1 x2 x3 x4 t0 t1 t2 t3 t4 t5) (own_v5_183 x0 x1 x2 x3 x4 t0 t1 t2 t3 t4 t5)
def own_v5_191 (x0 x1 x2 x3 x4 t0 t1 t2 t3 t4 t5 : Int32) : Int32 := own_cat6 (own_v5_185 x0 x1 x2 x3 x4 t0 t1 t2 t3 t4 t5) (own_v5_186 x0 x1 x2 x3 x4 t0 t1 t2 t3 t4 t5) (own_v5_187 x0 x1 x2 x3 x4 t0 t1 t2 t3 t4 t5) (own_v5_188 x0 x1 x2 x3 x4 t0 t1 t2 t3 t4 t5) (own_v5_189 x0 x1 x2 x3 x4 t0 t1 t2 t3 t4 t5) (own_v5_190 x0 x1 x2 x3 x4 t0 t1 t2 t3 t4 t5) x1
def own_v5_192 (x0 x1 x2 x3 x4 t0 t1 t2 t3 t4 t5 : Int32) : Int32 := own_up x2 0 (own_v5_191 x0 x1 x2 x3 x4 t0 t1 t2 t3 t4 t5) (own_v5_185 x0 x1 x2 x3 x4 t0 t1 t2 t3 t4 t5)
def own_v5_193 (x0 x1 x2 x3 x4 t0 t1 t2 t3 t4 t5 : Int32) : Int32 := own_up x2 1 (own_v5_191 x0 x1 x2 x3 x4 t0 t1 t2 t3 t4 t5) (own_v5_186 x0 x1 x2 x3 x4 t0 t1 t2 t3 t4 t5)
def own_v5_194 (x0 x1 x2 x3 x4 t0 t1 t2 t3 t4 t5 : Int32) : Int32 := own_up x2 2 (own_v5_191 x0 x1 x2 x3 x4 t0 t1 t2 t3 t4 t5) (own_v5_187 x0 x1 x2 x3 x4 t0 t1 t2 t3 t4 t5)
def own_v5_195 (x0 x1 x2 x3 x4 t0 t1 t2 t3 t4 t5 : Int32) : Int32 := own_up x2 3 (own_v5_191 x0 x1 x2 x3 x4 t0 t1 t2 t3 t4 t5) (own_v5_188 x0 x1 x2 x3 x4 t0 t1 t2 t3 t4 t5)
def own_v5_196 (x0 x1 x2 x3 x4 t0 t1 t2 t3 t4 t5 : Int32) : Int32 := own_up x2 4 (own_v5_191 x0 x1 x2 x3 x4 t0 t1 t2 t3 t4 t5) (own_v5_189 x0 x1 x2 x3 x4 t0 t1 t2 t3 t4 t5)
def own_v5_197 (x0 x1 x2 x3 x4 t0 t1 t2 t3 t4 t5 : Int32) : Int32 := own_up x2 5 (own_v5_191 x0 x1 x2 x3 x4 t0 t1 t2 t3 t4 t5) (own_v5_190 x0 x1 x2 x3 x4 t0 t1 t2 t3 t4 t5)
def own_v5_198 (x0 x1 x2 x3 x4 t0 t1 t2 t3 t4 t5 : Int32) : Int32 := own_cat6 (own_v5_192 x0 x1 x2 x3 x4 t0 t1 t2 t3 t4 t5) (own_v5_193 x0 x1 x2 x3 x4 t0 t1 t2 t3 t4 t5) (own_v5_194 x0 x1 x2 x3 x4 t0 t1 t2 t3 t4 t5) (own_v5_195 x0 x1 x2 x3 x4 t0 t1 t2 t3 t4 t5) (own_v5_196 x0 x1 x2 x3 x4 t0 t1 t2 t3 t4 t5) (own_v5_197 x0 x1 x2 x3 x4 t0 t1 t2 t3 t4 t5) x0
def own_v5_199 (x0 x1 x2 x3 x4 t0 t1 t2 t3 t4 t5 : Int32) : Int32 := own_up x1 0 (own_v5_198 x0 x1 x2 x3 x4 t0 t1 t2 t3 t4 t5) (own_v5_192 x0 x1 x2 x3 x4 t0 t1 t2 t3 t4 t5)
def own_v5_200 (x0 x1 x2 x3 x4 t0 t1 t2 t3 t4 t5 : Int32) : Int32 := own_up x1 1 (own_v5_198 x0 x1 x2 x3 x4 t0 t1 t2 t3 t4 t5) (own_v5_193 x0 x1 x2 x3 x4 t0 t1 t2 t3 t4 t5)
def own_v5_201 (x0 x1 x2 x3 x4 t0 t1 t2 t3 t4 t5 : Int32) : Int32 := own_up x1 2 (own_v5_198 x0 x1 x2 x3 x4 t0 t1 t2 t3 t4 t5) (own_v5_194 x0 x1 x2 x3 x4 t0 t1 t2 t3 t4 t5)
def own_v5_202 (x0 x1 x2 x3 x4 t0 t1 t2 t3 t4 t5 : Int32) : Int32 := own_up x1 3 (own_v5_198 x0 x1 x2 x3 x4 t0 t1 t2 t3 t4 t5) (own_v5_195 x0 x1 x2 x3 x4 t0 t1 t2 t3 t4 t5)
def own_v5_203 (x0 x1 x2 x3 x4 t0 t1 t2 t3 t4 t5 : Int32) : Int32 := own_up x1 4 (own_v5_198 x0 x1 x2 x3 x4 t0 t1 t2 t3 t4 t5) (own_v5_196 x0 x1 x2 x3 x4 t0 t1 t2 t3 t4 t5)
def own_v5_204 (x0 x1 x2 x3 x4 t0 t1 t2 t3 t4 t5 : Int32) : Int32 := own_up x1 5 (own_v5_198 x0 x1 x2 x3 x4 t0 t1 t2 t3 t4 t5) (own_v5_197 x0 x1 x2 x3 x4 t0 t1 t2 t3 t4 t5)
def own_v5_205 (x0 x1 x2 x3 x4 t0 t1 t2 t3 t4 t5 : Int32) : Int32 := own_up x0 0 (own_v5_176 x0 x1 x2 x3 x4 t0 t1 t2 t3 t4 t5) (own_v5_199 x0 x1 x2 x3 x4 t0 t1 t2 t3 t4 t5)
def own_v5_206 (x0 x1 x2 x3 x4 t0 t1 t2 t3 t4 t5 : Int32) : Int32 := own_up x0 1 (own_v5_176 x0 x1 x2 x3 x4 t0 t1 t2 t3 t4 t5) (own_v5_200 x0 x1 x2 x3 x4 t0 t1 t2 t3 t4 t5)
def own_v5_207 (x0 x1 x2 x3 x4 t0 t1 t2 t3 t4 t5 : Int32) : Int32 := own_up x0 2 (own_v5_176 x0 x1 x2 x3 x4 t0 t1 t2 t3 t4 t5) (own_v5_201 x0 x1 x2 x3 x4 t0 t1 t2 t3 t4 t5)
def own_v5_208 (x0 x1 x2 x3 x4 t0 t1 t2 t3 t4 t5 : Int32) : Int32 := own_up x0 3 (own_v5_176 x0 x1 x2 x3 x4 t0 t1 t2 t3 t4 t5) (own_v5_202 x0 x1 x2 x3 x4 t0 t1 t2 t3 t4 t5)
def own_v5_209 (x0 x1 x2 x3 x4 t0 t1 t2 t3 t4 t5 : Int32) : Int32 := own_up x0 4 (own_v5_176 x0 x1 x2 x3 x4 t0 t1 t2 t3 t4 t5) (own_v5_203 x0 x1 x2 x3 x4 t0 t1 t2 t3 t4 t5)
def own_v5_210 (x0 x1 x2 x3 x4 t0 t1 t2 t3 t4 t5 : Int32) : Int32 := own_up x0 5 (own_v5_176 x0 x1 x2 x3 x4 t0 t1 t2 t3 t4 t5) (own_v5_204 x0 x1 x2 x3 x4 t0 t1 t2 t3 t4 t5)

def own_Q2_5 (Z : State) (a1 : Addr) (a2 : Addr) (t0 : Int32) (t1 : Int32) (t2 : Int32) (t3 : Int32) (t4 : Int32) (t5 : Int32) (x0 : Int32) (x1 : Int32) (x2 : Int32) (x3 : Int32) (x4 : Int32) (h0 : Heap) (n0 : Nat) (v : Option Value) (h : Heap) (L : List Loc) : Prop := v = none ∧ Fr n0 L ∧ Keep h0 h [a1] ∧ own_A Z h a1 .int [.int (own_v5_170 x0 x1 x2 x3 x4 t0 t1 t2 t3 t4 t5), .int (own_v5_171 x0 x1 x2 x3 x4 t0 t1 t2 t3 t4 t5), .int (own_v5_172 x0 x1 x2 x3 x4 t0 t1 t2 t3 t4 t5), .int (own_v5_173 x0 x1 x2 x3 x4 t0 t1 t2 t3 t4 t5), .int (own_v5_174 x0 x1 x2 x3 x4 t0 t1 t2 t3 t4 t5), .int (own_v5_175 x0 x1 x2 x3 x4 t0 t1 t2 t3 t4 t5)] ∧ own_A Z h a2 .int [.int x0, .int x1, .int x2, .int x3, .int x4]
set_option maxRecDepth 65536 in
set_option maxHeartbeats 40000000 in
theorem rm2_5 (l : Launch) (Z : State) (a0 : Array Value) (hw : ∀ d ∈ tables_1, d.before a0 Z = true) (ws : List Jvm.Cond) (a1 : Addr) (a2 : Addr) (t0 : Int32) (t1 : Int32) (t2 : Int32) (t3 : Int32) (t4 : Int32) (t5 : Int32) (x0 : Int32) (x1 : Int32) (x2 : Int32) (x3 : Int32) (x4 : Int32) (h0 : Heap) (n0 : Nat) (V0p : own_A Z h0 a1 .int [.int t0, .int t1, .int t2, .int t3, .int t4, .int t5]) (V1p : own_A Z h0 a2 .int [.int x0, .int x1, .int x2, .int x3, .int x4]) (G_a1 : n0 ≤ a1) (ne_a2_a1 : a2 ≠ a1) (hS : own_S5 x0 x1 x2 x3 x4) :
    MetFree l (⟨"com/example/tourloom/tourloom/GeneticOperators", "shiftRound", "([I[I)V"⟩ : MethodName) (head1 (Jvm.Cond.code (⟨"com/example/tourloom/tourloom/GeneticOperators", "shiftRound", "([I[I)V"⟩ : MethodName) prog_15_method_6_code 4 none :: ws) ({ frames := 0, cells := 0, slots := 0, locals := 0 } : Room)) (fun a U => a = #[.ref a1, .ref a2] ∧ Z.Warmed39 U.vm ∧ U.heap = h0) (fun _ _ _ _ _ => True) (fun _ U o U' => ∃ v L, o = .returned v ∧ own_Q2_5 Z a1 a2 t0 t1 t2 t3 t4 t5 x0 x1 x2 x3 x4 h0 n0 v U'.heap L ∧ FrameEnd U o U' L ({ frames := 0, cells := 0, slots := 0, locals := 0 } : Room).cells ({ frames := 0, cells := 0, slots := 0, locals := 0 } : Room).slots) := by
  refine MetFree.of_bodySF (plainFor_of_name own_pn2) hisR ?_
  intro p e s m args below meth c s₁ Bd hml0 hP hK
  obtain ⟨rfl, hZ, hh⟩ := hP
  have hx := Bd.exec
  have hby := Bd.bytes
  have hml : c.maxLocals = 4 := hml0
  have hown : s.vm.findClass "com/example/tourloom/tourloom/GeneticOperators" = some m.cls := findClass_of_methodNamed Bd.named
  have hnm := (name_of_methodNamed Bd.named Bd.method).1
  have hlk : meth.locks = false := BodyLoose.notSynchronized Bd
  have X0 : Stand p l e ({ frames := 0, cells := 0, slots := 0, locals := 0 } : Room) s m #[.ref a1, .ref a2] below meth c s₁ [] 0 0 := Stand.of_body Bd
  have e0 : s₁.heap = h0 := by rw [← hh, Bd.state]; rfl
  have N0 := Fr.nil n0
  have K0 := Keep.refl h0 [a1]
  show own_Go p e below (own_E s 0 0 (own_Q2_5 Z a1 a2 t0 t1 t2 t3 t4 t5 x0 x1 x2 x3 x4 h0 n0)) (s₁.setTop (entryFrame m #[.ref a1, .ref a2] 4))
  rw [own_ef2]
  refine own_aloadN X0 hx (hb hby own_d2_0) (q := 1) rfl rfl rfl ?_
  refine own_aloadN X0 hx (hb hby own_d2_1) (q := 2) rfl rfl rfl ?_
  refine own_aloadN X0 hx (hb hby own_d2_2) (q := 3) rfl rfl rfl ?_
  refine own_alen X0 hx hZ (n := (5 : Int32)) e0 V1p rfl (hb hby own_d2_3) (q := 4) rfl ?_
  refine own_iconst X0 hx (v := (1 : Int32)) (hb hby own_d2_4) (q := 5) rfl rfl ?_
  refine own_isub X0 hx (hb hby own_d2_5) (q := 6) rfl ?_
  rw [show ((5 : Int32) - (1 : Int32) : Int32) = (4 : Int32) from by decide]
  refine own_iaload X0 hx hZ (i := 4) (v := .int x4) e0 V1p (by decide) (by decide) rfl (hb hby own_d2_6) (q := 7) rfl ?_
  refine own_iaload X0 hx hZ (i := (x4).toNatClampNeg) (v := .int (own_v5_176 x0 x1 x2 x3 x4 t0 t1 t2 t3 t4 t5)) e0 V0p (own_nn6 (own_S5_4 hS)) rfl (own_cat6V (own_S5_4 hS)) (hb hby own_d2_7) (q := 8) rfl ?_
  refine own_istoreN (L' := #[.val (.ref a1), .val (.ref a2), .val (.int (own_v5_176 x0 x1 x2 x3 x4 t0 t1 t2 t3 t4 t5)), .unset]) X0 hx (hb hby own_d2_8) (q := 9) rfl rfl ?_
  refine own_aloadN X0 hx (hb hby own_d2_9) (q := 10) rfl rfl rfl ?_
  refine own_alen X0 hx hZ (n := (5 : Int32)) e0 V1p rfl (hb hby own_d2_10) (q := 11) rfl ?_
  refine own_iconst X0 hx (v := (1 : Int32)) (hb hby own_d2_11) (q := 12) rfl rfl ?_
  refine own_isub X0 hx (hb hby own_d2_12) (q := 13) rfl ?_
  rw [show ((5 : Int32) - (1 : Int32) : Int32) = (4 : Int32) from by decide]
  refine own_istoreN (L' := #[.val (.ref a1), .val (.ref a2), .val (.int (own_v5_176 x0 x1 x2 x3 x4 t0 t1 t2 t3 t4 t5)), .val (.int (4 : Int32))]) X0 hx (hb hby own_d2_13) (q := 14) rfl rfl ?_
  refine own_iloadN X0 hx (hb hby own_d2_14) (q := 15) rfl rfl ?_
  refine own_if0M X0 hx (hb hby own_d2_15) (cd := .le) (x := (4 : Int32)) (pt := 36) (q := 18) (by decide) (by decide) rfl rfl (fun h => False.elim (h ((by decide) : (0 : Int32) < (4 : Int32)))) (fun _ => ?_)
  refine own_aloadN X0 hx (hb hby own_d2_18) (q := 19) rfl rfl rfl ?_
  refine own_aloadN X0 hx (hb hby own_d2_19) (q := 20) rfl rfl rfl ?_
  refine own_iloadN X0 hx (hb hby own_d2_20) (q := 21) rfl rfl ?_
  refine own_iaload X0 hx hZ (i := 4) (v := .int x4) e0 V1p (by decide) (by decide) rfl (hb hby own_d2_21) (q := 22) rfl ?_
  refine own_aloadN X0 hx (hb hby own_d2_22) (q := 23) rfl rfl rfl ?_
  refine own_aloadN X0 hx (hb hby own_d2_23) (q := 24) rfl rfl rfl ?_
  refine own_iloadN X0 hx (hb hby own_d2_24) (q := 25) rfl rfl ?_
  refine own_iconst X0 hx (v := (1 : Int32)) (hb hby own_d2_25) (q := 26) rfl rfl ?_
  refine own_isub X0 hx (hb hby own_d2_26) (q := 27) rfl ?_
  rw [show ((4 : Int32) - (1 : Int32) : Int32) = (3 : Int32) from by decide]
  refine own_iaload X0 hx hZ (i := 3) (v := .int x3) e0 V1p (by decide) (by decide) rfl (hb hby own_d2_27) (q := 28) rfl ?_
  refine own_iaload X0 hx hZ (i := (x3).toNatClampNeg) (v := .int (own_v5_177 x0 x1 x2 x3 x4 t0 t1 t2 t3 t4 t5)) e0 V0p (own_nn6 (own_S5_3 hS)) rfl (own_cat6V (own_S5_3 hS)) (hb hby own_d2_28) (q := 29) rfl ?_
  refine own_iastore X0 hx hZ (i := (x4).toNatClampNeg) e0 V0p (own_nn6 (own_S5_4 hS)) rfl (own_lt6 (own_S5_4 hS)) (hb hby own_d2_29) (q := 30) rfl (fun T311 h314 X312 e313 W315 A316 => ?_)
  replace A316 : own_A Z h314 a1 .int [.int (own_v5_178 x0 x1 x2 x3 x4 t0 t1 t2 t3 t4 t5), .int (own_v5_179 x0 x1 x2 x3 x4 t0 t1 t2 t3 t4 t5), .int (own_v5_180 x0 x1 x2 x3 x4 t0 t1 t2 t3 t4 t5), .int (own_v5_181 x0 x1 x2 x3 x4 t0 t1 t2 t3 t4 t5), .int (own_v5_182 x0 x1 x2 x3 x4 t0 t1 t2 t3 t4 t5), .int (own_v5_183 x0 x1 x2 x3 x4 t0 t1 t2 t3 t4 t5)] := by rw [own_set6 (own_S5_4 hS)] at A316; exact A316
  have V317 := V1p.other W315 ne_a2_a1
  have K318 := K0.wr W315 (Or.inl (List.mem_of_getElem? (i := 0) rfl))
  have N319 := Fr.snoc X312 N0 G_a1
  refine own_iinc (L' := #[.val (.ref a1), .val (.ref a2), .val (.int (own_v5_176 x0 x1 x2 x3 x4 t0 t1 t2 t3 t4 t5)), .val (.int ((4 : Int32) + (-1 : Int32)))]) X312 hx (v := (-1 : Int32)) (hb hby own_d2_30) (q := 33) rfl rfl rfl rfl ?_
  rw [show ((4 : Int32) + (-1 : Int32) : Int32) = (3 : Int32) from by decide]
  refine own_goto X312 hx (hb hby own_d2_33) (q := 14) (by decide) (by decide) ?_
  refine own_iloadN X312 hx (hb hby own_d2_14) (q := 15) rfl rfl ?_
  refine own_if0M X312 hx (hb hby own_d2_15) (cd := .le) (x := (3 : Int32)) (pt := 36) (q := 18) (by decide) (by decide) rfl rfl (fun h => False.elim (h ((by decide) : (0 : Int32) < (3 : Int32)))) (fun _ => ?_)
  refine own_aloadN X312 hx (hb hby own_d2_18) (q := 19) rfl rfl rfl ?_
  refine own_aloadN X312 hx (hb hby own_d2_19) (q := 20) rfl rfl rfl ?_
  refine own_iloadN X312 hx (hb hby own_d2_20) (q := 21) rfl rfl ?_
  refine own_iaload X312 hx hZ (i := 3) (v := .int x3) e313 V317 (by decide) (by decide) rfl (hb hby own_d2_21) (q := 22) rfl ?_
  refine own_aloadN X312 hx (hb hby own_d2_22) (q := 23) rfl rfl rfl ?_
  refine own_aloadN X312 hx (hb hby own_d2_23) (q := 24) rfl rfl rfl ?_
  refine own_iloadN X312 hx (hb hby own_d2_24) (q := 25) rfl rfl ?_
  refine own_iconst X312 hx (v := (1 : Int32)) (hb hby own_d2_25) (q := 26) rfl rfl ?_
  refine own_isub X312 hx (hb hby own_d2_26) (q := 27) rfl ?_
  rw [show ((3 : Int32) - (1 : Int32) : Int32) = (2 : Int32) from by decide]
  refine own_iaload X312 hx hZ (i := 2) (v := .int x2) e313 V317 (by decide) (by decide) rfl (hb hby own_d2_27) (q := 28) rfl ?_
  refine own_iaload X312 hx hZ (i := (x2).toNatClampNeg) (v := .int (own_v5_184 x0 x1 x2 x3 x4 t0 t1 t2 t3 t4 t5)) e313 A316 (own_nn6 (own_S5_2 hS)) rfl (own_cat6V (own_S5_2 hS)) (hb hby own_d2_28) (q := 29) rfl ?_
  refine own_iastore X312 hx hZ (i := (x3).toNatClampNeg) e313 A316 (own_nn6 (own_S5_3 hS)) rfl (own_lt6 (own_S5_3 hS)) (hb hby own_d2_29) (q := 30) rfl (fun T320 h323 X321 e322 W324 A325 => ?_)
  replace A325 : own_A Z h323 a1 .int [.int (own_v5_185 x0 x1 x2 x3 x4 t0 t1 t2 t3 t4 t5), .int (own_v5_186 x0 x1 x2 x3 x4 t0 t1 t2 t3 t4 t5), .int (own_v5_187 x0 x1 x2 x3 x4 t0 t1 t2 t3 t4 t5), .int (own_v5_188 x0 x1 x2 x3 x4 t0 t1 t2 t3 t4 t5), .int (own_v5_189 x0 x1 x2 x3 x4 t0 t1 t2 t3 t4 t5), .int (own_v5_190 x0 x1 x2 x3 x4 t0 t1 t2 t3 t4 t5)] := by rw [own_set6 (own_S5_3 hS)] at A325; exact A325
  have V326 := V317.other W324 ne_a2_a1
  have K327 := K318.wr W324 (Or.inl (List.mem_of_getElem? (i := 0) rfl))
  have N328 := Fr.snoc X321 N319 G_a1
  refine own_iinc (L' := #[.val (.ref a1), .val (.ref a2), .val (.int (own_v5_176 x0 x1 x2 x3 x4 t0 t1 t2 t3 t4 t5)), .val (.int ((3 : Int32) + (-1 : Int32)))]) X321 hx (v := (-1 : Int32)) (hb hby own_d2_30) (q := 33) rfl rfl rfl rfl ?_
  rw [show ((3 : Int32) + (-1 : Int32) : Int32) = (2 : Int32) from by decide]
  refine own_goto X321 hx (hb hby own_d2_33) (q := 14) (by decide) (by decide) ?_
  refine own_iloadN X321 hx (hb hby own_d2_14) (q := 15) rfl rfl ?_
  refine own_if0M X321 hx (hb hby own_d2_15) (cd := .le) (x := (2 : Int32)) (pt := 36) (q := 18) (by decide) (by decide) rfl rfl (fun h => False.elim (h ((by decide) : (0 : Int32) < (2 : Int32)))) (fun _ => ?_)
  refine own_aloadN X321 hx (hb hby own_d2_18) (q := 19) rfl rfl rfl ?_
  refine own_aloadN X321 hx (hb hby own_d2_19) (q := 20) rfl rfl rfl ?_
  refine own_iloadN X321 hx (hb hby own_d2_20) (q := 21) rfl rfl ?_
  refine own_iaload X321 hx hZ (i := 2) (v := .int x2) e322 V326 (by decide) (by decide) rfl (hb hby own_d2_21) (q := 22) rfl ?_
  refine own_aloadN X321 hx (hb hby own_d2_22) (q := 23) rfl rfl rfl ?_
  refine own_aloadN X321 hx (hb hby own_d2_23) (q := 24) rfl rfl rfl ?_
  refine own_iloadN X321 hx (hb hby own_d2_24) (q := 25) rfl rfl ?_
  refine own_iconst X321 hx (v := (1 : Int32)) (hb hby own_d2_25) (q := 26) rfl rfl ?_
  refine own_isub X321 hx (hb hby own_d2_26) (q := 27) rfl ?_
  rw [show ((2 : Int32) - (1 : Int32) : Int32) = (1 : Int32) from by decide]
  refine own_iaload X321 hx hZ (i := 1) (v := .int x1) e322 V326 (by decide) (by decide) rfl (hb hby own_d2_27) (q := 28) rfl ?_
  refine own_iaload X321 hx hZ (i := (x1).toNatClampNeg) (v := .int (own_v5_191 x0 x1 x2 x3 x4 t0 t1 t2 t3 t4 t5)) e322 A325 (own_nn6 (own_S5_1 hS)) rfl (own_cat6V (own_S5_1 hS)) (hb hby own_d2_28) (q := 29) rfl ?_
  refine own_iastore X321 hx hZ (i := (x2).toNatClampNeg) e322 A325 (own_nn6 (own_S5_2 hS)) rfl (own_lt6 (own_S5_2 hS)) (hb hby own_d2_29) (q := 30) rfl (fun T329 h332 X330 e331 W333 A334 => ?_)
  replace A334 : own_A Z h332 a1 .int [.int (own_v5_192 x0 x1 x2 x3 x4 t0 t1 t2 t3 t4 t5), .int (own_v5_193 x0 x1 x2 x3 x4 t0 t1 t2 t3 t4 t5), .int (own_v5_194 x0 x1 x2 x3 x4 t0 t1 t2 t3 t4 t5), .int (own_v5_195 x0 x1 x2 x3 x4 t0 t1 t2 t3 t4 t5), .int (own_v5_196 x0 x1 x2 x3 x4 t0 t1 t2 t3 t4 t5), .int (own_v5_197 x0 x1 x2 x3 x4 t0 t1 t2 t3 t4 t5)] := by rw [own_set6 (own_S5_2 hS)] at A334; exact A334
  have V335 := V326.other W333 ne_a2_a1
  have K336 := K327.wr W333 (Or.inl (List.mem_of_getElem? (i := 0) rfl))
  have N337 := Fr.snoc X330 N328 G_a1
  refine own_iinc (L' := #[.val (.ref a1), .val (.ref a2), .val (.int (own_v5_176 x0 x1 x2 x3 x4 t0 t1 t2 t3 t4 t5)), .val (.int ((2 : Int32) + (-1 : Int32)))]) X330 hx (v := (-1 : Int32)) (hb hby own_d2_30) (q := 33) rfl rfl rfl rfl ?_
  rw [show ((2 : Int32) + (-1 : Int32) : Int32) = (1 : Int32) from by decide]
  refine own_goto X330 hx (hb hby own_d2_33) (q := 14) (by decide) (by decide) ?_
  refine own_iloadN X330 hx (hb hby own_d2_14) (q := 15) rfl rfl ?_
  refine own_if0M X330 hx (hb hby own_d2_15) (cd := .le) (x := (1 : Int32)) (pt := 36) (q := 18) (by decide) (by decide) rfl rfl (fun h => False.elim (h ((by decide) : (0 : Int32) < (1 : Int32)))) (fun _ => ?_)
  refine own_aloadN X330 hx (hb hby own_d2_18) (q := 19) rfl rfl rfl ?_
  refine own_aloadN X330 hx (hb hby own_d2_19) (q := 20) rfl rfl rfl ?_
  refine own_iloadN X330 hx (hb hby own_d2_20) (q := 21) rfl rfl ?_
  refine own_iaload X330 hx hZ (i := 1) (v := .int x1) e331 V335 (by decide) (by decide) rfl (hb hby own_d2_21) (q := 22) rfl ?_
  refine own_aloadN X330 hx (hb hby own_d2_22) (q := 23) rfl rfl rfl ?_
  refine own_aloadN X330 hx (hb hby own_d2_23) (q := 24) rfl rfl rfl ?_
  refine own_iloadN X330 hx (hb hby own_d2_24) (q := 25) rfl rfl ?_
  refine own_iconst X330 hx (v := (1 : Int32)) (hb hby own_d2_25) (q := 26) rfl rfl ?_
  refine own_isub X330 hx (hb hby own_d2_26) (q := 27) rfl ?_
  rw [show ((1 : Int32) - (1 : Int32) : Int32) = (0 : Int32) from by decide]
  refine own_iaload X330 hx hZ (i := 0) (v := .int x0) e331 V335 (by decide) (by decide) rfl (hb hby own_d2_27) (q := 28) rfl ?_
  refine own_iaload X330 hx hZ (i := (x0).toNatClampNeg) (v := .int (own_v5_198 x0 x1 x2 x3 x4 t0 t1 t2 t3 t4 t5)) e331 A334 (own_nn6 (own_S5_0 hS)) rfl (own_cat6V (own_S5_0 hS)) (hb hby own_d2_28) (q := 29) rfl ?_
  refine own_iastore X330 hx hZ (i := (x1).toNatClampNeg) e331 A334 (own_nn6 (own_S5_1 hS)) rfl (own_lt6 (own_S5_1 hS)) (hb hby own_d2_29) (q := 30) rfl (fun T338 h341 X339 e340 W342 A343 => ?_)
  replace A343 : own_A Z h341 a1 .int [.int (own_v5_199 x0 x1 x2 x3 x4 t0 t1 t2 t3 t4 t5), .int (own_v5_200 x0 x1 x2 x3 x4 t0 t1 t2 t3 t4 t5), .int (own_v5_201 x0 x1 x2 x3 x4 t0 t1 t2 t3 t4 t5), .int (own_v5_202 x0 x1 x2 x3 x4 t0 t1 t2 t3 t4 t5), .int (own_v5_203 x0 x1 x2 x3 x4 t0 t1 t2 t3 t4 t5), .int (own_v5_204 x0 x1 x2 x3 x4 t0 t1 t2 t3 t4 t5)] := by rw [own_set6 (own_S5_1 hS)] at A343; exact A343
  have V344 := V335.other W342 ne_a2_a1
  have K345 := K336.wr W342 (Or.inl (List.mem_of_getElem? (i := 0) rfl))
  have N346 := Fr.snoc X339 N337 G_a1
  refine own_iinc (L' := #[.val (.ref a1), .val (.ref a2), .val (.int (own_v5_176 x0 x1 x2 x3 x4 t0 t1 t2 t3 t4 t5)), .val (.int ((1 : Int32) + (-1 : Int32)))]) X339 hx (v := (-1 : Int32)) (hb hby own_d2_30) (q := 33) rfl rfl rfl rfl ?_
  rw [show ((1 : Int32) + (-1 : Int32) : Int32) = (0 : Int32) from by decide]
  refine own_goto X339 hx (hb hby own_d2_33) (q := 14) (by decide) (by decide) ?_
  refine own_iloadN X339 hx (hb hby own_d2_14) (q := 15) rfl rfl ?_
  refine own_if0M X339 hx (hb hby own_d2_15) (cd := .le) (x := (0 : Int32)) (pt := 36) (q := 18) (by decide) (by decide) rfl rfl (fun _ => ?_) (fun h => False.elim (((by decide) : ¬ ((0 : Int32) < (0 : Int32))) h))
  refine own_aloadN X339 hx (hb hby own_d2_36) (q := 37) rfl rfl rfl ?_
  refine own_aloadN X339 hx (hb hby own_d2_37) (q := 38) rfl rfl rfl ?_
  refine own_iconst X339 hx (v := (0 : Int32)) (hb hby own_d2_38) (q := 39) rfl rfl ?_
  refine own_iaload X339 hx hZ (i := 0) (v := .int x0) e340 V344 (by decide) (by decide) rfl (hb hby own_d2_39) (q := 40) rfl ?_
  refine own_iloadN X339 hx (hb hby own_d2_40) (q := 41) rfl rfl ?_
  refine own_iastore X339 hx hZ (i := (x0).toNatClampNeg) e340 A343 (own_nn6 (own_S5_0 hS)) rfl (own_lt6 (own_S5_0 hS)) (hb hby own_d2_41) (q := 42) rfl (fun T347 h350 X348 e349 W351 A352 => ?_)
  replace A352 : own_A Z h350 a1 .int [.int (own_v5_205 x0 x1 x2 x3 x4 t0 t1 t2 t3 t4 t5), .int (own_v5_206 x0 x1 x2 x3 x4 t0 t1 t2 t3 t4 t5), .int (own_v5_207 x0 x1 x2 x3 x4 t0 t1 t2 t3 t4 t5), .int (own_v5_208 x0 x1 x2 x3 x4 t0 t1 t2 t3 t4 t5), .int (own_v5_209 x0 x1 x2 x3 x4 t0 t1 t2 t3 t4 t5), .int (own_v5_210 x0 x1 x2 x3 x4 t0 t1 t2 t3 t4 t5)] := by rw [own_set6 (own_S5_0 hS)] at A352; exact A352
  have V353 := V344.other W351 ne_a2_a1
  have K354 := K345.wr W351 (Or.inl (List.mem_of_getElem? (i := 0) rfl))
  have N355 := Fr.snoc X348 N346 G_a1
  refine own_retV X348 hx hlk (rest := []) Bd.returns (hb hby own_d2_42) ?_ (by decide) (by decide)
  show own_Q2_5 Z a1 a2 t0 t1 t2 t3 t4 t5 x0 x1 x2 x3 x4 h0 n0 _ T347.heap _
  rw [e349]
  exact ⟨rfl, N355, K354, A352, V353⟩
theorem own_ef3_k5 (m : MethodId) (a1 : Addr) (a2 : Addr) : entryFrame m #[.ref a1, .ref a2, .int (5 : Int32)] 4 = mkF m 0 #[.val (.ref a1), .val (.ref a2), .val (.int (5 : Int32)), .unset] [] := by first | (simp [entryFrame, mkF, argsToLocals, Value.category]; done) | rfl
theorem own_d3_117 : decode method_4_code 117 = .ok (.aload_n 0, 1) := by decide +kernel
theorem own_d3_118 : decode method_4_code 118 = .ok (.iconst 4, 1) := by decide +kernel
theorem own_d3_119 : decode method_4_code 119 = .ok (.iaload, 1) := by decide +kernel
theorem own_d3_120 : decode method_4_code 120 = .ok (.aload_n 1, 1) := by decide +kernel
theorem own_d3_121 : decode method_4_code 121 = .ok (.iconst 4, 1) := by decide +kernel
theorem own_d3_122 : decode method_4_code 122 = .ok (.iaload, 1) := by decide +kernel
theorem own_d3_123 : decode method_4_code 123 = .ok (.if_icmp .ne 7, 3) := by decide +kernel
theorem own_d3_126 : decode method_4_code 126 = .ok (.iconst 1, 1) := by decide +kernel
theorem own_d3_127 : decode method_4_code 127 = .ok (.goto 4, 3) := by decide +kernel
theorem own_d3_131 : decode method_4_code 131 = .ok (.istore_n 3, 1) := by decide +kernel
def own_f3_5 (x0 : Int32) (x1 : Int32) (x2 : Int32) (x3 : Int32) (x4 : Int32) : Int32 := (1 : Int32)
set_option maxRecDepth 65536 in
set_option maxHeartbeats 40000000 in
theorem rm3_5 (l : Launch) (Z : State) (a0 : Array Value) (hw : ∀ d ∈ tables_1, d.before a0 Z = true) (ws : List Jvm.Cond) (a1 : Addr) (a2 : Addr) (x0 : Int32) (x1 : Int32) (x2 : Int32) (x3 : Int32) (x4 : Int32) (h0 : Heap) (V0p : own_A Z h0 a1 .int [.int x0, .int x1, .int x2, .int x3, .int x4]) (V1p : own_A Z h0 a2 .int [.int x0, .int x1, .int x2, .int x3, .int x4, .int (0 : Int32)]) :
    MetFree l (⟨"com/example/tourloom/tourloom/GeneticOperatorsShiftRoundPinLaw", "risingKept", "([I[II)Z"⟩ : MethodName) (head1 (Jvm.Cond.code (⟨"com/example/tourloom/tourloom/GeneticOperatorsShiftRoundPinLaw", "risingKept", "([I[II)Z"⟩ : MethodName) method_4_code 4 (some .boolean) :: ws) ({ frames := 0, cells := 0, slots := 0, locals := 0 } : Room)) (fun a U => a = #[.ref a1, .ref a2, .int (5 : Int32)] ∧ Z.Warmed39 U.vm ∧ U.heap = h0) (fun _ _ _ _ _ => True) (fun _ U o U' => ∃ v L, o = .returned v ∧ own_P (.int (own_f3_5 x0 x1 x2 x3 x4)) h0 v U'.heap L ∧ FrameEnd U o U' L ({ frames := 0, cells := 0, slots := 0, locals := 0 } : Room).cells ({ frames := 0, cells := 0, slots := 0, locals := 0 } : Room).slots) := by
  refine MetFree.of_bodySF (plainFor_of_name own_pn0) hisR ?_
  intro p e s m args below meth c s₁ Bd hml0 hP hK
  obtain ⟨rfl, hZ, hh⟩ := hP
  have hx := Bd.exec
  have hby := Bd.bytes
  have hml : c.maxLocals = 4 := hml0
  have hown : s.vm.findClass "com/example/tourloom/tourloom/GeneticOperatorsShiftRoundPinLaw" = some m.cls := findClass_of_methodNamed Bd.named
  have hnm := (name_of_methodNamed Bd.named Bd.method).1
  have hlk : meth.locks = false := BodyLoose.notSynchronized Bd
  have X0 : Stand p l e ({ frames := 0, cells := 0, slots := 0, locals := 0 } : Room) s m #[.ref a1, .ref a2, .int (5 : Int32)] below meth c s₁ [] 0 0 := Stand.of_body Bd
  have e0 : s₁.heap = h0 := by rw [← hh, Bd.state]; rfl
  show own_Go p e below (own_E s 0 0 (own_P (.int (own_f3_5 x0 x1 x2 x3 x4)) h0)) (s₁.setTop (entryFrame m #[.ref a1, .ref a2, .int (5 : Int32)] 4))
  rw [own_ef3_k5]
  refine own_aloadN X0 hx (hb hby own_d3_0) (q := 1) rfl rfl rfl ?_
  refine own_alen X0 hx hZ (n := (5 : Int32)) e0 V0p rfl (hb hby own_d3_1) (q := 2) rfl ?_
  refine own_iloadN X0 hx (hb hby own_d3_2) (q := 3) rfl rfl ?_
  refine own_icmpM X0 hx (hb hby own_d3_3) (cd := .ne) (x := (5 : Int32)) (y := (5 : Int32)) (pt := 10) (q := 6) (by decide) (by decide) rfl rfl (fun h => False.elim (h ((by decide) : (5 : Int32) = (5 : Int32)))) (fun _ => ?_)
  refine own_iconst X0 hx (v := (1 : Int32)) (hb hby own_d3_6) (q := 7) rfl rfl ?_
  refine own_goto X0 hx (hb hby own_d3_7) (q := 11) (by decide) (by decide) ?_
  refine own_istoreN (L' := #[.val (.ref a1), .val (.ref a2), .val (.int (5 : Int32)), .val (.int (1 : Int32))]) X0 hx (hb hby own_d3_11) (q := 12) rfl rfl ?_
  refine own_iloadN X0 hx (hb hby own_d3_12) (q := 13) rfl rfl ?_
  refine own_if0P X0 hx (hb hby own_d3_13) (cd := .eq) (x := (1 : Int32)) (pt := 36) (q := 16) (by decide) (by decide) rfl rfl (fun h => False.elim (((by decide) : ¬ ((1 : Int32) = (0 : Int32))) h)) (fun _ => ?_)
  refine own_iloadN X0 hx (hb hby own_d3_16) (q := 17) rfl rfl ?_
  refine own_iconst X0 hx (v := (1 : Int32)) (hb hby own_d3_17) (q := 18) rfl rfl ?_
  refine own_icmpP X0 hx (hb hby own_d3_18) (cd := .lt) (x := (5 : Int32)) (y := (1 : Int32)) (pt := 36) (q := 21) (by decide) (by decide) rfl rfl (fun h => False.elim (((by decide) : ¬ ((5 : Int32) < (1 : Int32))) h)) (fun _ => ?_)
  refine own_aloadN X0 hx (hb hby own_d3_21) (q := 22) rfl rfl rfl ?_
  refine own_iconst X0 hx (v := (0 : Int32)) (hb hby own_d3_22) (q := 23) rfl rfl ?_
  refine own_iaload X0 hx hZ (i := 0) (v := .int x0) e0 V0p (by decide) (by decide) rfl (hb hby own_d3_23) (q := 24) rfl ?_
  refine own_aloadN X0 hx (hb hby own_d3_24) (q := 25) rfl rfl rfl ?_
  refine own_iconst X0 hx (v := (0 : Int32)) (hb hby own_d3_25) (q := 26) rfl rfl ?_
  refine own_iaload X0 hx hZ (i := 0) (v := .int x0) e0 V1p (by decide) (by decide) rfl (hb hby own_d3_26) (q := 27) rfl ?_
  refine own_icmpM X0 hx (hb hby own_d3_27) (cd := .ne) (x := x0) (y := x0) (pt := 34) (q := 30) (by decide) (by decide) rfl rfl (fun h => False.elim (h (rfl : x0 = x0))) (fun _ => ?_)
  refine own_iconst X0 hx (v := (1 : Int32)) (hb hby own_d3_30) (q := 31) rfl rfl ?_
  refine own_goto X0 hx (hb hby own_d3_31) (q := 35) (by decide) (by decide) ?_
  refine own_istoreN (L' := #[.val (.ref a1), .val (.ref a2), .val (.int (5 : Int32)), .val (.int (1 : Int32))]) X0 hx (hb hby own_d3_35) (q := 36) rfl rfl ?_
  refine own_iloadN X0 hx (hb hby own_d3_36) (q := 37) rfl rfl ?_
  refine own_if0P X0 hx (hb hby own_d3_37) (cd := .eq) (x := (1 : Int32)) (pt := 60) (q := 40) (by decide) (by decide) rfl rfl (fun h => False.elim (((by decide) : ¬ ((1 : Int32) = (0 : Int32))) h)) (fun _ => ?_)
  refine own_iloadN X0 hx (hb hby own_d3_40) (q := 41) rfl rfl ?_
  refine own_iconst X0 hx (v := (2 : Int32)) (hb hby own_d3_41) (q := 42) rfl rfl ?_
  refine own_icmpP X0 hx (hb hby own_d3_42) (cd := .lt) (x := (5 : Int32)) (y := (2 : Int32)) (pt := 60) (q := 45) (by decide) (by decide) rfl rfl (fun h => False.elim (((by decide) : ¬ ((5 : Int32) < (2 : Int32))) h)) (fun _ => ?_)
  refine own_aloadN X0 hx (hb hby own_d3_45) (q := 46) rfl rfl rfl ?_
  refine own_iconst X0 hx (v := (1 : Int32)) (hb hby own_d3_46) (q := 47) rfl rfl ?_
  refine own_iaload X0 hx hZ (i := 1) (v := .int x1) e0 V0p (by decide) (by decide) rfl (hb hby own_d3_47) (q := 48) rfl ?_
  refine own_aloadN X0 hx (hb hby own_d3_48) (q := 49) rfl rfl rfl ?_
  refine own_iconst X0 hx (v := (1 : Int32)) (hb hby own_d3_49) (q := 50) rfl rfl ?_
  refine own_iaload X0 hx hZ (i := 1) (v := .int x1) e0 V1p (by decide) (by decide) rfl (hb hby own_d3_50) (q := 51) rfl ?_
  refine own_icmpM X0 hx (hb hby own_d3_51) (cd := .ne) (x := x1) (y := x1) (pt := 58) (q := 54) (by decide) (by decide) rfl rfl (fun h => False.elim (h (rfl : x1 = x1))) (fun _ => ?_)
  refine own_iconst X0 hx (v := (1 : Int32)) (hb hby own_d3_54) (q := 55) rfl rfl ?_
  refine own_goto X0 hx (hb hby own_d3_55) (q := 59) (by decide) (by decide) ?_
  refine own_istoreN (L' := #[.val (.ref a1), .val (.ref a2), .val (.int (5 : Int32)), .val (.int (1 : Int32))]) X0 hx (hb hby own_d3_59) (q := 60) rfl rfl ?_
  refine own_iloadN X0 hx (hb hby own_d3_60) (q := 61) rfl rfl ?_
  refine own_if0P X0 hx (hb hby own_d3_61) (cd := .eq) (x := (1 : Int32)) (pt := 84) (q := 64) (by decide) (by decide) rfl rfl (fun h => False.elim (((by decide) : ¬ ((1 : Int32) = (0 : Int32))) h)) (fun _ => ?_)
  refine own_iloadN X0 hx (hb hby own_d3_64) (q := 65) rfl rfl ?_
  refine own_iconst X0 hx (v := (3 : Int32)) (hb hby own_d3_65) (q := 66) rfl rfl ?_
  refine own_icmpP X0 hx (hb hby own_d3_66) (cd := .lt) (x := (5 : Int32)) (y := (3 : Int32)) (pt := 84) (q := 69) (by decide) (by decide) rfl rfl (fun h => False.elim (((by decide) : ¬ ((5 : Int32) < (3 : Int32))) h)) (fun _ => ?_)
  refine own_aloadN X0 hx (hb hby own_d3_69) (q := 70) rfl rfl rfl ?_
  refine own_iconst X0 hx (v := (2 : Int32)) (hb hby own_d3_70) (q := 71) rfl rfl ?_
  refine own_iaload X0 hx hZ (i := 2) (v := .int x2) e0 V0p (by decide) (by decide) rfl (hb hby own_d3_71) (q := 72) rfl ?_
  refine own_aloadN X0 hx (hb hby own_d3_72) (q := 73) rfl rfl rfl ?_
  refine own_iconst X0 hx (v := (2 : Int32)) (hb hby own_d3_73) (q := 74) rfl rfl ?_
  refine own_iaload X0 hx hZ (i := 2) (v := .int x2) e0 V1p (by decide) (by decide) rfl (hb hby own_d3_74) (q := 75) rfl ?_
  refine own_icmpM X0 hx (hb hby own_d3_75) (cd := .ne) (x := x2) (y := x2) (pt := 82) (q := 78) (by decide) (by decide) rfl rfl (fun h => False.elim (h (rfl : x2 = x2))) (fun _ => ?_)
  refine own_iconst X0 hx (v := (1 : Int32)) (hb hby own_d3_78) (q := 79) rfl rfl ?_
  refine own_goto X0 hx (hb hby own_d3_79) (q := 83) (by decide) (by decide) ?_
  refine own_istoreN (L' := #[.val (.ref a1), .val (.ref a2), .val (.int (5 : Int32)), .val (.int (1 : Int32))]) X0 hx (hb hby own_d3_83) (q := 84) rfl rfl ?_
  refine own_iloadN X0 hx (hb hby own_d3_84) (q := 85) rfl rfl ?_
  refine own_if0P X0 hx (hb hby own_d3_85) (cd := .eq) (x := (1 : Int32)) (pt := 108) (q := 88) (by decide) (by decide) rfl rfl (fun h => False.elim (((by decide) : ¬ ((1 : Int32) = (0 : Int32))) h)) (fun _ => ?_)
  refine own_iloadN X0 hx (hb hby own_d3_88) (q := 89) rfl rfl ?_
  refine own_iconst X0 hx (v := (4 : Int32)) (hb hby own_d3_89) (q := 90) rfl rfl ?_
  refine own_icmpP X0 hx (hb hby own_d3_90) (cd := .lt) (x := (5 : Int32)) (y := (4 : Int32)) (pt := 108) (q := 93) (by decide) (by decide) rfl rfl (fun h => False.elim (((by decide) : ¬ ((5 : Int32) < (4 : Int32))) h)) (fun _ => ?_)
  refine own_aloadN X0 hx (hb hby own_d3_93) (q := 94) rfl rfl rfl ?_
  refine own_iconst X0 hx (v := (3 : Int32)) (hb hby own_d3_94) (q := 95) rfl rfl ?_
  refine own_iaload X0 hx hZ (i := 3) (v := .int x3) e0 V0p (by decide) (by decide) rfl (hb hby own_d3_95) (q := 96) rfl ?_
  refine own_aloadN X0 hx (hb hby own_d3_96) (q := 97) rfl rfl rfl ?_
  refine own_iconst X0 hx (v := (3 : Int32)) (hb hby own_d3_97) (q := 98) rfl rfl ?_
  refine own_iaload X0 hx hZ (i := 3) (v := .int x3) e0 V1p (by decide) (by decide) rfl (hb hby own_d3_98) (q := 99) rfl ?_
  refine own_icmpM X0 hx (hb hby own_d3_99) (cd := .ne) (x := x3) (y := x3) (pt := 106) (q := 102) (by decide) (by decide) rfl rfl (fun h => False.elim (h (rfl : x3 = x3))) (fun _ => ?_)
  refine own_iconst X0 hx (v := (1 : Int32)) (hb hby own_d3_102) (q := 103) rfl rfl ?_
  refine own_goto X0 hx (hb hby own_d3_103) (q := 107) (by decide) (by decide) ?_
  refine own_istoreN (L' := #[.val (.ref a1), .val (.ref a2), .val (.int (5 : Int32)), .val (.int (1 : Int32))]) X0 hx (hb hby own_d3_107) (q := 108) rfl rfl ?_
  refine own_iloadN X0 hx (hb hby own_d3_108) (q := 109) rfl rfl ?_
  refine own_if0P X0 hx (hb hby own_d3_109) (cd := .eq) (x := (1 : Int32)) (pt := 132) (q := 112) (by decide) (by decide) rfl rfl (fun h => False.elim (((by decide) : ¬ ((1 : Int32) = (0 : Int32))) h)) (fun _ => ?_)
  refine own_iloadN X0 hx (hb hby own_d3_112) (q := 113) rfl rfl ?_
  refine own_iconst X0 hx (v := (5 : Int32)) (hb hby own_d3_113) (q := 114) rfl rfl ?_
  refine own_icmpP X0 hx (hb hby own_d3_114) (cd := .lt) (x := (5 : Int32)) (y := (5 : Int32)) (pt := 132) (q := 117) (by decide) (by decide) rfl rfl (fun h => False.elim (((by decide) : ¬ ((5 : Int32) < (5 : Int32))) h)) (fun _ => ?_)
  refine own_aloadN X0 hx (hb hby own_d3_117) (q := 118) rfl rfl rfl ?_
  refine own_iconst X0 hx (v := (4 : Int32)) (hb hby own_d3_118) (q := 119) rfl rfl ?_
  refine own_iaload X0 hx hZ (i := 4) (v := .int x4) e0 V0p (by decide) (by decide) rfl (hb hby own_d3_119) (q := 120) rfl ?_
  refine own_aloadN X0 hx (hb hby own_d3_120) (q := 121) rfl rfl rfl ?_
  refine own_iconst X0 hx (v := (4 : Int32)) (hb hby own_d3_121) (q := 122) rfl rfl ?_
  refine own_iaload X0 hx hZ (i := 4) (v := .int x4) e0 V1p (by decide) (by decide) rfl (hb hby own_d3_122) (q := 123) rfl ?_
  refine own_icmpM X0 hx (hb hby own_d3_123) (cd := .ne) (x := x4) (y := x4) (pt := 130) (q := 126) (by decide) (by decide) rfl rfl (fun h => False.elim (h (rfl : x4 = x4))) (fun _ => ?_)
  refine own_iconst X0 hx (v := (1 : Int32)) (hb hby own_d3_126) (q := 127) rfl rfl ?_
  refine own_goto X0 hx (hb hby own_d3_127) (q := 131) (by decide) (by decide) ?_
  refine own_istoreN (L' := #[.val (.ref a1), .val (.ref a2), .val (.int (5 : Int32)), .val (.int (1 : Int32))]) X0 hx (hb hby own_d3_131) (q := 132) rfl rfl ?_
  refine own_iloadN X0 hx (hb hby own_d3_132) (q := 133) rfl rfl ?_
  refine own_if0P X0 hx (hb hby own_d3_133) (cd := .eq) (x := (1 : Int32)) (pt := 157) (q := 136) (by decide) (by decide) rfl rfl (fun h => False.elim (((by decide) : ¬ ((1 : Int32) = (0 : Int32))) h)) (fun _ => ?_)
  refine own_iloadN X0 hx (hb hby own_d3_136) (q := 137) rfl rfl ?_
  refine own_bipush X0 hx (v := (6 : Int32)) (hb hby own_d3_137) (q := 139) rfl rfl ?_
  refine own_icmpP X0 hx (hb hby own_d3_139) (cd := .lt) (x := (5 : Int32)) (y := (6 : Int32)) (pt := 157) (q := 142) (by decide) (by decide) rfl rfl (fun _ => ?_) (fun h => False.elim (h ((by decide) : (5 : Int32) < (6 : Int32))))
  refine own_iloadN X0 hx (hb hby own_d3_157) (q := 158) rfl rfl ?_
  refine own_retN X0 hx hlk (t := .boolean) (by simp) Bd.returns (hb hby own_d3_158) ?_ (by decide) (by decide)
  have r : own_f3_5 x0 x1 x2 x3 x4 = (1 : Int32) := by rw [own_f3_5]
  exact ⟨by rw [r] <;> rfl, e0, rfl⟩
theorem own_ef1_k6 (m : MethodId) (a1 : Addr) : entryFrame m #[.ref a1, .int (6 : Int32)] 2 = mkF m 0 #[.val (.ref a1), .val (.int (6 : Int32))] [] := by first | (simp [entryFrame, mkF, argsToLocals, Value.category]; done) | rfl
theorem own_d1_135 : decode method_3_code 135 = .ok (.bipush 6, 2) := by decide +kernel
theorem own_d1_137 : decode method_3_code 137 = .ok (.newarray .int, 2) := by decide +kernel
theorem own_d1_139 : decode method_3_code 139 = .ok (.dup, 1) := by decide +kernel
theorem own_d1_140 : decode method_3_code 140 = .ok (.iconst 0, 1) := by decide +kernel
theorem own_d1_141 : decode method_3_code 141 = .ok (.aload_n 0, 1) := by decide +kernel
theorem own_d1_142 : decode method_3_code 142 = .ok (.iconst 0, 1) := by decide +kernel
theorem own_d1_143 : decode method_3_code 143 = .ok (.iaload, 1) := by decide +kernel
theorem own_d1_144 : decode method_3_code 144 = .ok (.iastore, 1) := by decide +kernel
theorem own_d1_145 : decode method_3_code 145 = .ok (.dup, 1) := by decide +kernel
theorem own_d1_146 : decode method_3_code 146 = .ok (.iconst 1, 1) := by decide +kernel
theorem own_d1_147 : decode method_3_code 147 = .ok (.aload_n 0, 1) := by decide +kernel
theorem own_d1_148 : decode method_3_code 148 = .ok (.iconst 1, 1) := by decide +kernel
theorem own_d1_149 : decode method_3_code 149 = .ok (.iaload, 1) := by decide +kernel
theorem own_d1_150 : decode method_3_code 150 = .ok (.iastore, 1) := by decide +kernel
theorem own_d1_151 : decode method_3_code 151 = .ok (.dup, 1) := by decide +kernel
theorem own_d1_152 : decode method_3_code 152 = .ok (.iconst 2, 1) := by decide +kernel
theorem own_d1_153 : decode method_3_code 153 = .ok (.aload_n 0, 1) := by decide +kernel
theorem own_d1_154 : decode method_3_code 154 = .ok (.iconst 2, 1) := by decide +kernel
theorem own_d1_155 : decode method_3_code 155 = .ok (.iaload, 1) := by decide +kernel
theorem own_d1_156 : decode method_3_code 156 = .ok (.iastore, 1) := by decide +kernel
theorem own_d1_157 : decode method_3_code 157 = .ok (.dup, 1) := by decide +kernel
theorem own_d1_158 : decode method_3_code 158 = .ok (.iconst 3, 1) := by decide +kernel
theorem own_d1_159 : decode method_3_code 159 = .ok (.aload_n 0, 1) := by decide +kernel
theorem own_d1_160 : decode method_3_code 160 = .ok (.iconst 3, 1) := by decide +kernel
theorem own_d1_161 : decode method_3_code 161 = .ok (.iaload, 1) := by decide +kernel
theorem own_d1_162 : decode method_3_code 162 = .ok (.iastore, 1) := by decide +kernel
theorem own_d1_163 : decode method_3_code 163 = .ok (.dup, 1) := by decide +kernel
theorem own_d1_164 : decode method_3_code 164 = .ok (.iconst 4, 1) := by decide +kernel
theorem own_d1_165 : decode method_3_code 165 = .ok (.aload_n 0, 1) := by decide +kernel
theorem own_d1_166 : decode method_3_code 166 = .ok (.iconst 4, 1) := by decide +kernel
theorem own_d1_167 : decode method_3_code 167 = .ok (.iaload, 1) := by decide +kernel
theorem own_d1_168 : decode method_3_code 168 = .ok (.iastore, 1) := by decide +kernel
theorem own_d1_169 : decode method_3_code 169 = .ok (.dup, 1) := by decide +kernel
theorem own_d1_170 : decode method_3_code 170 = .ok (.iconst 5, 1) := by decide +kernel
theorem own_d1_171 : decode method_3_code 171 = .ok (.aload_n 0, 1) := by decide +kernel
theorem own_d1_172 : decode method_3_code 172 = .ok (.iconst 5, 1) := by decide +kernel
theorem own_d1_173 : decode method_3_code 173 = .ok (.iaload, 1) := by decide +kernel
theorem own_d1_174 : decode method_3_code 174 = .ok (.iastore, 1) := by decide +kernel
theorem own_d1_175 : decode method_3_code 175 = .ok (.areturn, 1) := by decide +kernel
def own_Q1_6 (Z : State) (a1 : Addr) (x0 : Int32) (x1 : Int32) (x2 : Int32) (x3 : Int32) (x4 : Int32) (x5 : Int32) (h0 : Heap) (n0 : Nat) (v : Option Value) (h : Heap) (L : List Loc) : Prop := ∃ ra0 : Addr, v = some (.ref ra0) ∧ Fr n0 L ∧ Keep h0 h [] ∧ h0.size ≤ ra0 ∧ own_A Z h ra0 .int [.int x0, .int x1, .int x2, .int x3, .int x4, .int x5]
set_option maxRecDepth 65536 in
set_option maxHeartbeats 40000000 in
theorem rm1_6 (l : Launch) (Z : State) (a0 : Array Value) (hw : ∀ d ∈ tables_1, d.before a0 Z = true) (ws : List Jvm.Cond) (a1 : Addr) (x0 : Int32) (x1 : Int32) (x2 : Int32) (x3 : Int32) (x4 : Int32) (x5 : Int32) (h0 : Heap) (n0 : Nat) (Z0 : n0 ≤ h0.size) (V0p : own_A Z h0 a1 .int [.int x0, .int x1, .int x2, .int x3, .int x4, .int x5]) :
    MetFree l (⟨"com/example/tourloom/tourloom/GeneticOperatorsShiftRoundPinLaw", "pick", "([II)[I"⟩ : MethodName) (head1 (Jvm.Cond.code (⟨"com/example/tourloom/tourloom/GeneticOperatorsShiftRoundPinLaw", "pick", "([II)[I"⟩ : MethodName) method_3_code 2 (some (.array .int)) :: ws) ({ frames := 0, cells := 1, slots := 6, locals := 0 } : Room)) (fun a U => a = #[.ref a1, .int (6 : Int32)] ∧ Z.Warmed39 U.vm ∧ U.heap = h0) (fun _ _ _ _ _ => True) (fun _ U o U' => ∃ v L, o = .returned v ∧ own_Q1_6 Z a1 x0 x1 x2 x3 x4 x5 h0 n0 v U'.heap L ∧ FrameEnd U o U' L ({ frames := 0, cells := 1, slots := 6, locals := 0 } : Room).cells ({ frames := 0, cells := 1, slots := 6, locals := 0 } : Room).slots) := by
  refine MetFree.of_bodySF (plainFor_of_name own_pn0) hisR ?_
  intro p e s m args below meth c s₁ Bd hml0 hP hK
  obtain ⟨rfl, hZ, hh⟩ := hP
  have hx := Bd.exec
  have hby := Bd.bytes
  have hml : c.maxLocals = 2 := hml0
  have hown : s.vm.findClass "com/example/tourloom/tourloom/GeneticOperatorsShiftRoundPinLaw" = some m.cls := findClass_of_methodNamed Bd.named
  have hnm := (name_of_methodNamed Bd.named Bd.method).1
  have hlk : meth.locks = false := BodyLoose.notSynchronized Bd
  have X0 : Stand p l e ({ frames := 0, cells := 1, slots := 6, locals := 0 } : Room) s m #[.ref a1, .int (6 : Int32)] below meth c s₁ [] 0 0 := Stand.of_body Bd
  have e0 : s₁.heap = h0 := by rw [← hh, Bd.state]; rfl
  have N0 := Fr.nil n0
  have K0 := Keep.refl h0 []
  show own_Go p e below (own_E s 1 6 (own_Q1_6 Z a1 x0 x1 x2 x3 x4 x5 h0 n0)) (s₁.setTop (entryFrame m #[.ref a1, .int (6 : Int32)] 2))
  rw [own_ef1_k6]
  refine own_iloadN X0 hx (hb hby own_d1_0) (q := 1) rfl rfl ?_
  refine own_iconst X0 hx (v := (1 : Int32)) (hb hby own_d1_1) (q := 2) rfl rfl ?_
  refine own_icmpM X0 hx (hb hby own_d1_2) (cd := .ne) (x := (6 : Int32)) (y := (1 : Int32)) (pt := 15) (q := 5) (by decide) (by decide) rfl rfl (fun _ => ?_) (fun h => False.elim (((by decide) : ¬ ((6 : Int32) = (1 : Int32))) h))
  refine own_iloadN X0 hx (hb hby own_d1_15) (q := 16) rfl rfl ?_
  refine own_iconst X0 hx (v := (2 : Int32)) (hb hby own_d1_16) (q := 17) rfl rfl ?_
  refine own_icmpM X0 hx (hb hby own_d1_17) (cd := .ne) (x := (6 : Int32)) (y := (2 : Int32)) (pt := 36) (q := 20) (by decide) (by decide) rfl rfl (fun _ => ?_) (fun h => False.elim (((by decide) : ¬ ((6 : Int32) = (2 : Int32))) h))
  refine own_iloadN X0 hx (hb hby own_d1_36) (q := 37) rfl rfl ?_
  refine own_iconst X0 hx (v := (3 : Int32)) (hb hby own_d1_37) (q := 38) rfl rfl ?_
  refine own_icmpM X0 hx (hb hby own_d1_38) (cd := .ne) (x := (6 : Int32)) (y := (3 : Int32)) (pt := 63) (q := 41) (by decide) (by decide) rfl rfl (fun _ => ?_) (fun h => False.elim (((by decide) : ¬ ((6 : Int32) = (3 : Int32))) h))
  refine own_iloadN X0 hx (hb hby own_d1_63) (q := 64) rfl rfl ?_
  refine own_iconst X0 hx (v := (4 : Int32)) (hb hby own_d1_64) (q := 65) rfl rfl ?_
  refine own_icmpM X0 hx (hb hby own_d1_65) (cd := .ne) (x := (6 : Int32)) (y := (4 : Int32)) (pt := 96) (q := 68) (by decide) (by decide) rfl rfl (fun _ => ?_) (fun h => False.elim (((by decide) : ¬ ((6 : Int32) = (4 : Int32))) h))
  refine own_iloadN X0 hx (hb hby own_d1_96) (q := 97) rfl rfl ?_
  refine own_iconst X0 hx (v := (5 : Int32)) (hb hby own_d1_97) (q := 98) rfl rfl ?_
  refine own_icmpM X0 hx (hb hby own_d1_98) (cd := .ne) (x := (6 : Int32)) (y := (5 : Int32)) (pt := 135) (q := 101) (by decide) (by decide) rfl rfl (fun _ => ?_) (fun h => False.elim (((by decide) : ¬ ((6 : Int32) = (5 : Int32))) h))
  refine own_bipush X0 hx (v := (6 : Int32)) (hb hby own_d1_135) (q := 137) rfl rfl ?_
  refine own_newA X0 hx hZ (aty := .int) (ty := .int) (k := 6) (cap := 6) rfl (hw _ (List.mem_of_getElem? (i := 1) rfl)) e0 (by decide) (by decide) (by decide) (by decide) (by decide) (by decide) (hb hby own_d1_137) (q := 139) rfl (fun T356 h359 a360 X357 e358 g361 E362 A363 => ?_)
  have O364 : h0.size ≤ a360 := by rw [g361]; exact K0.1
  have V365 := V0p.ext E362
  have K366 := K0.ext E362
  have ne367 : a1 ≠ a360 := by rw [g361]; exact Nat.ne_of_lt V0p.lt
  have Z368 : n0 ≤ a360 := by rw [g361]; exact Z0
  have Z369 : n0 ≤ h359.size := Nat.le_trans Z0 E362.1
  replace A363 : own_A Z h359 a360 .int [.int (0 : Int32), .int (0 : Int32), .int (0 : Int32), .int (0 : Int32), .int (0 : Int32), .int (0 : Int32)] := A363
  refine own_dup X357 hx (hb hby own_d1_139) (q := 140) rfl rfl ?_
  refine own_iconst X357 hx (v := (0 : Int32)) (hb hby own_d1_140) (q := 141) rfl rfl ?_
  refine own_aloadN X357 hx (hb hby own_d1_141) (q := 142) rfl rfl rfl ?_
  refine own_iconst X357 hx (v := (0 : Int32)) (hb hby own_d1_142) (q := 143) rfl rfl ?_
  refine own_iaload X357 hx hZ (i := 0) (v := .int x0) e358 V365 (by decide) (by decide) rfl (hb hby own_d1_143) (q := 144) rfl ?_
  refine own_iastore X357 hx hZ (i := 0) e358 A363 (by decide) (by decide) (Nat.le_of_ble_eq_true rfl) (hb hby own_d1_144) (q := 145) rfl (fun T370 h373 X371 e372 W374 A375 => ?_)
  replace A375 : own_A Z h373 a360 .int [.int x0, .int (0 : Int32), .int (0 : Int32), .int (0 : Int32), .int (0 : Int32), .int (0 : Int32)] := A375
  have V376 := V365.other W374 ne367
  have K377 := K366.wr W374 (Or.inr O364)
  have Z378 : n0 ≤ h373.size := W374.size ▸ Z369
  have N379 := Fr.snoc X371 N0 Z368
  refine own_dup X371 hx (hb hby own_d1_145) (q := 146) rfl rfl ?_
  refine own_iconst X371 hx (v := (1 : Int32)) (hb hby own_d1_146) (q := 147) rfl rfl ?_
  refine own_aloadN X371 hx (hb hby own_d1_147) (q := 148) rfl rfl rfl ?_
  refine own_iconst X371 hx (v := (1 : Int32)) (hb hby own_d1_148) (q := 149) rfl rfl ?_
  refine own_iaload X371 hx hZ (i := 1) (v := .int x1) e372 V376 (by decide) (by decide) rfl (hb hby own_d1_149) (q := 150) rfl ?_
  refine own_iastore X371 hx hZ (i := 1) e372 A375 (by decide) (by decide) (Nat.le_of_ble_eq_true rfl) (hb hby own_d1_150) (q := 151) rfl (fun T380 h383 X381 e382 W384 A385 => ?_)
  replace A385 : own_A Z h383 a360 .int [.int x0, .int x1, .int (0 : Int32), .int (0 : Int32), .int (0 : Int32), .int (0 : Int32)] := A385
  have V386 := V376.other W384 ne367
  have K387 := K377.wr W384 (Or.inr O364)
  have Z388 : n0 ≤ h383.size := W384.size ▸ Z378
  have N389 := Fr.snoc X381 N379 Z368
  refine own_dup X381 hx (hb hby own_d1_151) (q := 152) rfl rfl ?_
  refine own_iconst X381 hx (v := (2 : Int32)) (hb hby own_d1_152) (q := 153) rfl rfl ?_
  refine own_aloadN X381 hx (hb hby own_d1_153) (q := 154) rfl rfl rfl ?_
  refine own_iconst X381 hx (v := (2 : Int32)) (hb hby own_d1_154) (q := 155) rfl rfl ?_
  refine own_iaload X381 hx hZ (i := 2) (v := .int x2) e382 V386 (by decide) (by decide) rfl (hb hby own_d1_155) (q := 156) rfl ?_
  refine own_iastore X381 hx hZ (i := 2) e382 A385 (by decide) (by decide) (Nat.le_of_ble_eq_true rfl) (hb hby own_d1_156) (q := 157) rfl (fun T390 h393 X391 e392 W394 A395 => ?_)
  replace A395 : own_A Z h393 a360 .int [.int x0, .int x1, .int x2, .int (0 : Int32), .int (0 : Int32), .int (0 : Int32)] := A395
  have V396 := V386.other W394 ne367
  have K397 := K387.wr W394 (Or.inr O364)
  have Z398 : n0 ≤ h393.size := W394.size ▸ Z388
  have N399 := Fr.snoc X391 N389 Z368
  refine own_dup X391 hx (hb hby own_d1_157) (q := 158) rfl rfl ?_
  refine own_iconst X391 hx (v := (3 : Int32)) (hb hby own_d1_158) (q := 159) rfl rfl ?_
  refine own_aloadN X391 hx (hb hby own_d1_159) (q := 160) rfl rfl rfl ?_
  refine own_iconst X391 hx (v := (3 : Int32)) (hb hby own_d1_160) (q := 161) rfl rfl ?_
  refine own_iaload X391 hx hZ (i := 3) (v := .int x3) e392 V396 (by decide) (by decide) rfl (hb hby own_d1_161) (q := 162) rfl ?_
  refine own_iastore X391 hx hZ (i := 3) e392 A395 (by decide) (by decide) (Nat.le_of_ble_eq_true rfl) (hb hby own_d1_162) (q := 163) rfl (fun T400 h403 X401 e402 W404 A405 => ?_)
  replace A405 : own_A Z h403 a360 .int [.int x0, .int x1, .int x2, .int x3, .int (0 : Int32), .int (0 : Int32)] := A405
  have V406 := V396.other W404 ne367
  have K407 := K397.wr W404 (Or.inr O364)
  have Z408 : n0 ≤ h403.size := W404.size ▸ Z398
  have N409 := Fr.snoc X401 N399 Z368
  refine own_dup X401 hx (hb hby own_d1_163) (q := 164) rfl rfl ?_
  refine own_iconst X401 hx (v := (4 : Int32)) (hb hby own_d1_164) (q := 165) rfl rfl ?_
  refine own_aloadN X401 hx (hb hby own_d1_165) (q := 166) rfl rfl rfl ?_
  refine own_iconst X401 hx (v := (4 : Int32)) (hb hby own_d1_166) (q := 167) rfl rfl ?_
  refine own_iaload X401 hx hZ (i := 4) (v := .int x4) e402 V406 (by decide) (by decide) rfl (hb hby own_d1_167) (q := 168) rfl ?_
  refine own_iastore X401 hx hZ (i := 4) e402 A405 (by decide) (by decide) (Nat.le_of_ble_eq_true rfl) (hb hby own_d1_168) (q := 169) rfl (fun T410 h413 X411 e412 W414 A415 => ?_)
  replace A415 : own_A Z h413 a360 .int [.int x0, .int x1, .int x2, .int x3, .int x4, .int (0 : Int32)] := A415
  have V416 := V406.other W414 ne367
  have K417 := K407.wr W414 (Or.inr O364)
  have Z418 : n0 ≤ h413.size := W414.size ▸ Z408
  have N419 := Fr.snoc X411 N409 Z368
  refine own_dup X411 hx (hb hby own_d1_169) (q := 170) rfl rfl ?_
  refine own_iconst X411 hx (v := (5 : Int32)) (hb hby own_d1_170) (q := 171) rfl rfl ?_
  refine own_aloadN X411 hx (hb hby own_d1_171) (q := 172) rfl rfl rfl ?_
  refine own_iconst X411 hx (v := (5 : Int32)) (hb hby own_d1_172) (q := 173) rfl rfl ?_
  refine own_iaload X411 hx hZ (i := 5) (v := .int x5) e412 V416 (by decide) (by decide) rfl (hb hby own_d1_173) (q := 174) rfl ?_
  refine own_iastore X411 hx hZ (i := 5) e412 A415 (by decide) (by decide) (Nat.le_of_ble_eq_true rfl) (hb hby own_d1_174) (q := 175) rfl (fun T420 h423 X421 e422 W424 A425 => ?_)
  replace A425 : own_A Z h423 a360 .int [.int x0, .int x1, .int x2, .int x3, .int x4, .int x5] := A425
  have V426 := V416.other W424 ne367
  have K427 := K417.wr W424 (Or.inr O364)
  have Z428 : n0 ≤ h423.size := W424.size ▸ Z418
  have N429 := Fr.snoc X421 N419 Z368
  refine own_retA X421 hx hlk rfl rfl rfl Bd.returns (hb hby own_d1_175) ?_ (by decide) (by decide)
  show own_Q1_6 Z a1 x0 x1 x2 x3 x4 x5 h0 n0 _ T420.heap _
  rw [e422]
  exact ⟨a360, rfl, N429, K427, O364, A425⟩
def own_v6_211 (x0 x1 x2 x3 x4 x5 t0 t1 t2 t3 t4 t5 : Int32) : Int32 := own_cat6 t0 t1 t2 t3 t4 t5 x5
def own_v6_212 (x0 x1 x2 x3 x4 x5 t0 t1 t2 t3 t4 t5 : Int32) : Int32 := own_cat6 t0 t1 t2 t3 t4 t5 x4
def own_v6_213 (x0 x1 x2 x3 x4 x5 t0 t1 t2 t3 t4 t5 : Int32) : Int32 := own_up x5 0 (own_v6_212 x0 x1 x2 x3 x4 x5 t0 t1 t2 t3 t4 t5) t0
def own_v6_214 (x0 x1 x2 x3 x4 x5 t0 t1 t2 t3 t4 t5 : Int32) : Int32 := own_up x5 1 (own_v6_212 x0 x1 x2 x3 x4 x5 t0 t1 t2 t3 t4 t5) t1
def own_v6_215 (x0 x1 x2 x3 x4 x5 t0 t1 t2 t3 t4 t5 : Int32) : Int32 := own_up x5 2 (own_v6_212 x0 x1 x2 x3 x4 x5 t0 t1 t2 t3 t4 t5) t2
def own_v6_216 (x0 x1 x2 x3 x4 x5 t0 t1 t2 t3 t4 t5 : Int32) : Int32 := own_up x5 3 (own_v6_212 x0 x1 x2 x3 x4 x5 t0 t1 t2 t3 t4 t5) t3
def own_v6_217 (x0 x1 x2 x3 x4 x5 t0 t1 t2 t3 t4 t5 : Int32) : Int32 := own_up x5 4 (own_v6_212 x0 x1 x2 x3 x4 x5 t0 t1 t2 t3 t4 t5) t4
def own_v6_218 (x0 x1 x2 x3 x4 x5 t0 t1 t2 t3 t4 t5 : Int32) : Int32 := own_up x5 5 (own_v6_212 x0 x1 x2 x3 x4 x5 t0 t1 t2 t3 t4 t5) t5
def own_v6_219 (x0 x1 x2 x3 x4 x5 t0 t1 t2 t3 t4 t5 : Int32) : Int32 := own_cat6 (own_v6_213 x0 x1 x2 x3 x4 x5 t0 t1 t2 t3 t4 t5) (own_v6_214 x0 x1 x2 x3 x4 x5 t0 t1 t2 t3 t4 t5) (own_v6_215 x0 x1 x2 x3 x4 x5 t0 t1 t2 t3 t4 t5) (own_v6_216 x0 x1 x2 x3 x4 x5 t0 t1 t2 t3 t4 t5) (own_v6_217 x0 x1 x2 x3 x4 x5 t0 t1 t2 t3 t4 t5) (own_v6_218 x0 x1 x2 x3 x4 x5 t0 t1 t2 t3 t4 t5) x3
def own_v6_220 (x0 x1 x2 x3 x4 x5 t0 t1 t2 t3 t4 t5 : Int32) : Int32 := own_up x4 0 (own_v6_219 x0 x1 x2 x3 x4 x5 t0 t1 t2 t3 t4 t5) (own_v6_213 x0 x1 x2 x3 x4 x5 t0 t1 t2 t3 t4 t5)
def own_v6_221 (x0 x1 x2 x3 x4 x5 t0 t1 t2 t3 t4 t5 : Int32) : Int32 := own_up x4 1 (own_v6_219 x0 x1 x2 x3 x4 x5 t0 t1 t2 t3 t4 t5) (own_v6_214 x0 x1 x2 x3 x4 x5 t0 t1 t2 t3 t4 t5)
def own_v6_222 (x0 x1 x2 x3 x4 x5 t0 t1 t2 t3 t4 t5 : Int32) : Int32 := own_up x4 2 (own_v6_219 x0 x1 x2 x3 x4 x5 t0 t1 t2 t3 t4 t5) (own_v6_215 x0 x1 x2 x3 x4 x5 t0 t1 t2 t3 t4 t5)
def own_v6_223 (x0 x1 x2 x3 x4 x5 t0 t1 t2 t3 t4 t5 : Int32) : Int32 := own_up x4 3 (own_v6_219 x0 x1 x2 x3 x4 x5 t0 t1 t2 t3 t4 t5) (own_v6_216 x0 x1 x2 x3 x4 x5 t0 t1 t2 t3 t4 t5)
def own_v6_224 (x0 x1 x2 x3 x4 x5 t0 t1 t2 t3 t4 t5 : Int32) : Int32 := own_up x4 4 (own_v6_219 x0 x1 x2 x3 x4 x5 t0 t1 t2 t3 t4 t5) (own_v6_217 x0 x1 x2 x3 x4 x5 t0 t1 t2 t3 t4 t5)
def own_v6_225 (x0 x1 x2 x3 x4 x5 t0 t1 t2 t3 t4 t5 : Int32) : Int32 := own_up x4 5 (own_v6_219 x0 x1 x2 x3 x4 x5 t0 t1 t2 t3 t4 t5) (own_v6_218 x0 x1 x2 x3 x4 x5 t0 t1 t2 t3 t4 t5)
def own_v6_226 (x0 x1 x2 x3 x4 x5 t0 t1 t2 t3 t4 t5 : Int32) : Int32 := own_cat6 (own_v6_220 x0 x1 x2 x3 x4 x5 t0 t1 t2 t3 t4 t5) (own_v6_221 x0 x1 x2 x3 x4 x5 t0 t1 t2 t3 t4 t5) (own_v6_222 x0 x1 x2 x3 x4 x5 t0 t1 t2 t3 t4 t5) (own_v6_223 x0 x1 x2 x3 x4 x5 t0 t1 t2 t3 t4 t5) (own_v6_224 x0 x1 x2 x3 x4 x5 t0 t1 t2 t3 t4 t5) (own_v6_225 x0 x1 x2 x3 x4 x5 t0 t1 t2 t3 t4 t5) x2
def own_v6_227 (x0 x1 x2 x3 x4 x5 t0 t1 t2 t3 t4 t5 : Int32) : Int32 := own_up x3 0 (own_v6_226 x0 x1 x2 x3 x4 x5 t0 t1 t2 t3 t4 t5) (own_v6_220 x0 x1 x2 x3 x4 x5 t0 t1 t2 t3 t4 t5)
def own_v6_228 (x0 x1 x2 x3 x4 x5 t0 t1 t2 t3 t4 t5 : Int32) : Int32 := own_up x3 1 (own_v6_226 x0 x1 x2 x3 x4 x5 t0 t1 t2 t3 t4 t5) (own_v6_221 x0 x1 x2 x3 x4 x5 t0 t1 t2 t3 t4 t5)
def own_v6_229 (x0 x1 x2 x3 x4 x5 t0 t1 t2 t3 t4 t5 : Int32) : Int32 := own_up x3 2 (own_v6_226 x0 x1 x2 x3 x4 x5 t0 t1 t2 t3 t4 t5) (own_v6_222 x0 x1 x2 x3 x4 x5 t0 t1 t2 t3 t4 t5)
def own_v6_230 (x0 x1 x2 x3 x4 x5 t0 t1 t2 t3 t4 t5 : Int32) : Int32 := own_up x3 3 (own_v6_226 x0 x1 x2 x3 x4 x5 t0 t1 t2 t3 t4 t5) (own_v6_223 x0 x1 x2 x3 x4 x5 t0 t1 t2 t3 t4 t5)
def own_v6_231 (x0 x1 x2 x3 x4 x5 t0 t1 t2 t3 t4 t5 : Int32) : Int32 := own_up x3 4 (own_v6_226 x0 x1 x2 x3 x4 x5 t0 t1 t2 t3 t4 t5) (own_v6_224 x0 x1 x2 x3 x4 x5 t0 t1 t2 t3 t4 t5)
def own_v6_232 (x0 x1 x2 x3 x4 x5 t0 t1 t2 t3 t4 t5 : Int32) : Int32 := own_up x3 5 (own_v6_226 x0 x1 x2 x3 x4 x5 t0 t1 t2 t3 t4 t5) (own_v6_225 x0 x1 x2 x3 x4 x5 t0 t1 t2 t3 t4 t5)
def own_v6_233 (x0 x1 x2 x3 x4 x5 t0 t1 t2 t3 t4 t5 : Int32) : Int32 := own_cat6 (own_v6_227 x0 x1 x2 x3 x4 x5 t0 t1 t2 t3 t4 t5) (own_v6_228 x0 x1 x2 x3 x4 x5 t0 t1 t2 t3 t4 t5) (own_v6_229 x0 x1 x2 x3 x4 x5 t0 t1 t2 t3 t4 t5) (own_v6_230 x0 x1 x2 x3 x4 x5 t0 t1 t2 t3 t4 t5) (own_v6_231 x0 x1 x2 x3 x4 x5 t0 t1 t2 t3 t4 t5) (own_v6_232 x0 x1 x2 x3 x4 x5 t0 t1 t2 t3 t4 t5) x1
def own_v6_234 (x0 x1 x2 x3 x4 x5 t0 t1 t2 t3 t4 t5 : Int32) : Int32 := own_up x2 0 (own_v6_233 x0 x1 x2 x3 x4 x5 t0 t1 t2 t3 t4 t5) (own_v6_227 x0 x1 x2 x3 x4 x5 t0 t1 t2 t3 t4 t5)
def own_v6_235 (x0 x1 x2 x3 x4 x5 t0 t1 t2 t3 t4 t5 : Int32) : Int32 := own_up x2 1 (own_v6_233 x0 x1 x2 x3 x4 x5 t0 t1 t2 t3 t4 t5) (own_v6_228 x0 x1 x2 x3 x4 x5 t0 t1 t2 t3 t4 t5)
def own_v6_236 (x0 x1 x2 x3 x4 x5 t0 t1 t2 t3 t4 t5 : Int32) : Int32 := own_up x2 2 (own_v6_233 x0 x1 x2 x3 x4 x5 t0 t1 t2 t3 t4 t5) (own_v6_229 x0 x1 x2 x3 x4 x5 t0 t1 t2 t3 t4 t5)
def own_v6_237 (x0 x1 x2 x3 x4 x5 t0 t1 t2 t3 t4 t5 : Int32) : Int32 := own_up x2 3 (own_v6_233 x0 x1 x2 x3 x4 x5 t0 t1 t2 t3 t4 t5) (own_v6_230 x0 x1 x2 x3 x4 x5 t0 t1 t2 t3 t4 t5)
def own_v6_238 (x0 x1 x2 x3 x4 x5 t0 t1 t2 t3 t4 t5 : Int32) : Int32 := own_up x2 4 (own_v6_233 x0 x1 x2 x3 x4 x5 t0 t1 t2 t3 t4 t5) (own_v6_231 x0 x1 x2 x3 x4 x5 t0 t1 t2 t3 t4 t5)
def own_v6_239 (x0 x1 x2 x3 x4 x5 t0 t1 t2 t3 t4 t5 : Int32) : Int32 := own_up x2 5 (own_v6_233 x0 x1 x2 x3 x4 x5 t0 t1 t2 t3 t4 t5) (own_v6_232 x0 x1 x2 x3 x4 x5 t0 t1 t2 t3 t4 t5)
def own_v6_240 (x0 x1 x2 x3 x4 x5 t0 t1 t2 t3 t4 t5 : Int32) : Int32 := own_cat6 (own_v6_234 x0 x1 x2 x3 x4 x5 t0 t1 t2 t3 t4 t5) (own_v6_235 x0 x1 x2 x3 x4 x5 t0 t1 t2 t3 t4 t5) (own_v6_236 x0 x1 x2 x3 x4 x5 t0 t1 t2 t3 t4 t5) (own_v6_237 x0 x1 x2 x3 x4 x5 t0 t1 t2 t3 t4 t5) (own_v6_238 x0 x1 x2 x3 x4 x5 t0 t1 t2 t3 t4 t5) (own_v6_239 x0 x1 x2 x3 x4 x5 t0 t1 t2 t3 t4 t5) x0
def own_v6_241 (x0 x1 x2 x3 x4 x5 t0 t1 t2 t3 t4 t5 : Int32) : Int32 := own_up x1 0 (own_v6_240 x0 x1 x2 x3 x4 x5 t0 t1 t2 t3 t4 t5) (own_v6_234 x0 x1 x2 x3 x4 x5 t0 t1 t2 t3 t4 t5)
def own_v6_242 (x0 x1 x2 x3 x4 x5 t0 t1 t2 t3 t4 t5 : Int32) : Int32 := own_up x1 1 (own_v6_240 x0 x1 x2 x3 x4 x5 t0 t1 t2 t3 t4 t5) (own_v6_235 x0 x1 x2 x3 x4 x5 t0 t1 t2 t3 t4 t5)
def own_v6_243 (x0 x1 x2 x3 x4 x5 t0 t1 t2 t3 t4 t5 : Int32) : Int32 := own_up x1 2 (own_v6_240 x0 x1 x2 x3 x4 x5 t0 t1 t2 t3 t4 t5) (own_v6_236 x0 x1 x2 x3 x4 x5 t0 t1 t2 t3 t4 t5)
def own_v6_244 (x0 x1 x2 x3 x4 x5 t0 t1 t2 t3 t4 t5 : Int32) : Int32 := own_up x1 3 (own_v6_240 x0 x1 x2 x3 x4 x5 t0 t1 t2 t3 t4 t5) (own_v6_237 x0 x1 x2 x3 x4 x5 t0 t1 t2 t3 t4 t5)
def own_v6_245 (x0 x1 x2 x3 x4 x5 t0 t1 t2 t3 t4 t5 : Int32) : Int32 := own_up x1 4 (own_v6_240 x0 x1 x2 x3 x4 x5 t0 t1 t2 t3 t4 t5) (own_v6_238 x0 x1 x2 x3 x4 x5 t0 t1 t2 t3 t4 t5)
def own_v6_246 (x0 x1 x2 x3 x4 x5 t0 t1 t2 t3 t4 t5 : Int32) : Int32 := own_up x1 5 (own_v6_240 x0 x1 x2 x3 x4 x5 t0 t1 t2 t3 t4 t5) (own_v6_239 x0 x1 x2 x3 x4 x5 t0 t1 t2 t3 t4 t5)
def own_v6_247 (x0 x1 x2 x3 x4 x5 t0 t1 t2 t3 t4 t5 : Int32) : Int32 := own_up x0 0 (own_v6_211 x0 x1 x2 x3 x4 x5 t0 t1 t2 t3 t4 t5) (own_v6_241 x0 x1 x2 x3 x4 x5 t0 t1 t2 t3 t4 t5)
def own_v6_248 (x0 x1 x2 x3 x4 x5 t0 t1 t2 t3 t4 t5 : Int32) : Int32 := own_up x0 1 (own_v6_211 x0 x1 x2 x3 x4 x5 t0 t1 t2 t3 t4 t5) (own_v6_242 x0 x1 x2 x3 x4 x5 t0 t1 t2 t3 t4 t5)
def own_v6_249 (x0 x1 x2 x3 x4 x5 t0 t1 t2 t3 t4 t5 : Int32) : Int32 := own_up x0 2 (own_v6_211 x0 x1 x2 x3 x4 x5 t0 t1 t2 t3 t4 t5) (own_v6_243 x0 x1 x2 x3 x4 x5 t0 t1 t2 t3 t4 t5)
def own_v6_250 (x0 x1 x2 x3 x4 x5 t0 t1 t2 t3 t4 t5 : Int32) : Int32 := own_up x0 3 (own_v6_211 x0 x1 x2 x3 x4 x5 t0 t1 t2 t3 t4 t5) (own_v6_244 x0 x1 x2 x3 x4 x5 t0 t1 t2 t3 t4 t5)
def own_v6_251 (x0 x1 x2 x3 x4 x5 t0 t1 t2 t3 t4 t5 : Int32) : Int32 := own_up x0 4 (own_v6_211 x0 x1 x2 x3 x4 x5 t0 t1 t2 t3 t4 t5) (own_v6_245 x0 x1 x2 x3 x4 x5 t0 t1 t2 t3 t4 t5)
def own_v6_252 (x0 x1 x2 x3 x4 x5 t0 t1 t2 t3 t4 t5 : Int32) : Int32 := own_up x0 5 (own_v6_211 x0 x1 x2 x3 x4 x5 t0 t1 t2 t3 t4 t5) (own_v6_246 x0 x1 x2 x3 x4 x5 t0 t1 t2 t3 t4 t5)
def own_v6_253 (x0 x1 x2 x3 x4 x5 t0 t1 t2 t3 t4 t5 : Int32) : Int32 := own_cat6 t0 t1 t2 t3 t4 t5 x5
def own_v6_254 (x0 x1 x2 x3 x4 x5 t0 t1 t2 t3 t4 t5 : Int32) : Int32 := own_cat6 t0 t1 t2 t3 t4 t5 x4
def own_v6_255 (x0 x1 x2 x3 x4 x5 t0 t1 t2 t3 t4 t5 : Int32) : Int32 := own_up x5 0 (own_v6_254 x0 x1 x2 x3 x4 x5 t0 t1 t2 t3 t4 t5) t0
def own_v6_256 (x0 x1 x2 x3 x4 x5 t0 t1 t2 t3 t4 t5 : Int32) : Int32 := own_up x5 1 (own_v6_254 x0 x1 x2 x3 x4 x5 t0 t1 t2 t3 t4 t5) t1
def own_v6_257 (x0 x1 x2 x3 x4 x5 t0 t1 t2 t3 t4 t5 : Int32) : Int32 := own_up x5 2 (own_v6_254 x0 x1 x2 x3 x4 x5 t0 t1 t2 t3 t4 t5) t2
def own_v6_258 (x0 x1 x2 x3 x4 x5 t0 t1 t2 t3 t4 t5 : Int32) : Int32 := own_up x5 3 (own_v6_254 x0 x1 x2 x3 x4 x5 t0 t1 t2 t3 t4 t5) t3
def own_v6_259 (x0 x1 x2 x3 x4 x5 t0 t1 t2 t3 t4 t5 : Int32) : Int32 := own_up x5 4 (own_v6_254 x0 x1 x2 x3 x4 x5 t0 t1 t2 t3 t4 t5) t4
def own_v6_260 (x0 x1 x2 x3 x4 x5 t0 t1 t2 t3 t4 t5 : Int32) : Int32 := own_up x5 5 (own_v6_254 x0 x1 x2 x3 x4 x5 t0 t1 t2 t3 t4 t5) t5
def own_v6_261 (x0 x1 x2 x3 x4 x5 t0 t1 t2 t3 t4 t5 : Int32) : Int32 := own_cat6 (own_v6_255 x0 x1 x2 x3 x4 x5 t0 t1 t2 t3 t4 t5) (own_v6_256 x0 x1 x2 x3 x4 x5 t0 t1 t2 t3 t4 t5) (own_v6_257 x0 x1 x2 x3 x4 x5 t0 t1 t2 t3 t4 t5) (own_v6_258 x0 x1 x2 x3 x4 x5 t0 t1 t2 t3 t4 t5) (own_v6_259 x0 x1 x2 x3 x4 x5 t0 t1 t2 t3 t4 t5) (own_v6_260 x0 x1 x2 x3 x4 x5 t0 t1 t2 t3 t4 t5) x3
def own_v6_262 (x0 x1 x2 x3 x4 x5 t0 t1 t2 t3 t4 t5 : Int32) : Int32 := own_up x4 0 (own_v6_261 x0 x1 x2 x3 x4 x5 t0 t1 t2 t3 t4 t5) (own_v6_255 x0 x1 x2 x3 x4 x5 t0 t1 t2 t3 t4 t5)
def own_v6_263 (x0 x1 x2 x3 x4 x5 t0 t1 t2 t3 t4 t5 : Int32) : Int32 := own_up x4 1 (own_v6_261 x0 x1 x2 x3 x4 x5 t0 t1 t2 t3 t4 t5) (own_v6_256 x0 x1 x2 x3 x4 x5 t0 t1 t2 t3 t4 t5)
def own_v6_264 (x0 x1 x2 x3 x4 x5 t0 t1 t2 t3 t4 t5 : Int32) : Int32 := own_up x4 2 (own_v6_261 x0 x1 x2 x3 x4 x5 t0 t1 t2 t3 t4 t5) (own_v6_257 x0 x1 x2 x3 x4 x5 t0 t1 t2 t3 t4 t5)
def own_v6_265 (x0 x1 x2 x3 x4 x5 t0 t1 t2 t3 t4 t5 : Int32) : Int32 := own_up x4 3 (own_v6_261 x0 x1 x2 x3 x4 x5 t0 t1 t2 t3 t4 t5) (own_v6_258 x0 x1 x2 x3 x4 x5 t0 t1 t2 t3 t4 t5)
def own_v6_266 (x0 x1 x2 x3 x4 x5 t0 t1 t2 t3 t4 t5 : Int32) : Int32 := own_up x4 4 (own_v6_261 x0 x1 x2 x3 x4 x5 t0 t1 t2 t3 t4 t5) (own_v6_259 x0 x1 x2 x3 x4 x5 t0 t1 t2 t3 t4 t5)
def own_v6_267 (x0 x1 x2 x3 x4 x5 t0 t1 t2 t3 t4 t5 : Int32) : Int32 := own_up x4 5 (own_v6_261 x0 x1 x2 x3 x4 x5 t0 t1 t2 t3 t4 t5) (own_v6_260 x0 x1 x2 x3 x4 x5 t0 t1 t2 t3 t4 t5)
def own_v6_268 (x0 x1 x2 x3 x4 x5 t0 t1 t2 t3 t4 t5 : Int32) : Int32 := own_cat6 (own_v6_262 x0 x1 x2 x3 x4 x5 t0 t1 t2 t3 t4 t5) (own_v6_263 x0 x1 x2 x3 x4 x5 t0 t1 t2 t3 t4 t5) (own_v6_264 x0 x1 x2 x3 x4 x5 t0 t1 t2 t3 t4 t5) (own_v6_265 x0 x1 x2 x3 x4 x5 t0 t1 t2 t3 t4 t5) (own_v6_266 x0 x1 x2 x3 x4 x5 t0 t1 t2 t3 t4 t5) (own_v6_267 x0 x1 x2 x3 x4 x5 t0 t1 t2 t3 t4 t5) x2
def own_v6_269 (x0 x1 x2 x3 x4 x5 t0 t1 t2 t3 t4 t5 : Int32) : Int32 := own_up x3 0 (own_v6_268 x0 x1 x2 x3 x4 x5 t0 t1 t2 t3 t4 t5) (own_v6_262 x0 x1 x2 x3 x4 x5 t0 t1 t2 t3 t4 t5)
def own_v6_270 (x0 x1 x2 x3 x4 x5 t0 t1 t2 t3 t4 t5 : Int32) : Int32 := own_up x3 1 (own_v6_268 x0 x1 x2 x3 x4 x5 t0 t1 t2 t3 t4 t5) (own_v6_263 x0 x1 x2 x3 x4 x5 t0 t1 t2 t3 t4 t5)
def own_v6_271 (x0 x1 x2 x3 x4 x5 t0 t1 t2 t3 t4 t5 : Int32) : Int32 := own_up x3 2 (own_v6_268 x0 x1 x2 x3 x4 x5 t0 t1 t2 t3 t4 t5) (own_v6_264 x0 x1 x2 x3 x4 x5 t0 t1 t2 t3 t4 t5)
def own_v6_272 (x0 x1 x2 x3 x4 x5 t0 t1 t2 t3 t4 t5 : Int32) : Int32 := own_up x3 3 (own_v6_268 x0 x1 x2 x3 x4 x5 t0 t1 t2 t3 t4 t5) (own_v6_265 x0 x1 x2 x3 x4 x5 t0 t1 t2 t3 t4 t5)
def own_v6_273 (x0 x1 x2 x3 x4 x5 t0 t1 t2 t3 t4 t5 : Int32) : Int32 := own_up x3 4 (own_v6_268 x0 x1 x2 x3 x4 x5 t0 t1 t2 t3 t4 t5) (own_v6_266 x0 x1 x2 x3 x4 x5 t0 t1 t2 t3 t4 t5)
def own_v6_274 (x0 x1 x2 x3 x4 x5 t0 t1 t2 t3 t4 t5 : Int32) : Int32 := own_up x3 5 (own_v6_268 x0 x1 x2 x3 x4 x5 t0 t1 t2 t3 t4 t5) (own_v6_267 x0 x1 x2 x3 x4 x5 t0 t1 t2 t3 t4 t5)
def own_v6_275 (x0 x1 x2 x3 x4 x5 t0 t1 t2 t3 t4 t5 : Int32) : Int32 := own_cat6 (own_v6_269 x0 x1 x2 x3 x4 x5 t0 t1 t2 t3 t4 t5) (own_v6_270 x0 x1 x2 x3 x4 x5 t0 t1 t2 t3 t4 t5) (own_v6_271 x0 x1 x2 x3 x4 x5 t0 t1 t2 t3 t4 t5) (own_v6_272 x0 x1 x2 x3 x4 x5 t0 t1 t2 t3 t4 t5) (own_v6_273 x0 x1 x2 x3 x4 x5 t0 t1 t2 t3 t4 t5) (own_v6_274 x0 x1 x2 x3 x4 x5 t0 t1 t2 t3 t4 t5) x1
def own_v6_276 (x0 x1 x2 x3 x4 x5 t0 t1 t2 t3 t4 t5 : Int32) : Int32 := own_up x2 0 (own_v6_275 x0 x1 x2 x3 x4 x5 t0 t1 t2 t3 t4 t5) (own_v6_269 x0 x1 x2 x3 x4 x5 t0 t1 t2 t3 t4 t5)
def own_v6_277 (x0 x1 x2 x3 x4 x5 t0 t1 t2 t3 t4 t5 : Int32) : Int32 := own_up x2 1 (own_v6_275 x0 x1 x2 x3 x4 x5 t0 t1 t2 t3 t4 t5) (own_v6_270 x0 x1 x2 x3 x4 x5 t0 t1 t2 t3 t4 t5)
def own_v6_278 (x0 x1 x2 x3 x4 x5 t0 t1 t2 t3 t4 t5 : Int32) : Int32 := own_up x2 2 (own_v6_275 x0 x1 x2 x3 x4 x5 t0 t1 t2 t3 t4 t5) (own_v6_271 x0 x1 x2 x3 x4 x5 t0 t1 t2 t3 t4 t5)
def own_v6_279 (x0 x1 x2 x3 x4 x5 t0 t1 t2 t3 t4 t5 : Int32) : Int32 := own_up x2 3 (own_v6_275 x0 x1 x2 x3 x4 x5 t0 t1 t2 t3 t4 t5) (own_v6_272 x0 x1 x2 x3 x4 x5 t0 t1 t2 t3 t4 t5)
def own_v6_280 (x0 x1 x2 x3 x4 x5 t0 t1 t2 t3 t4 t5 : Int32) : Int32 := own_up x2 4 (own_v6_275 x0 x1 x2 x3 x4 x5 t0 t1 t2 t3 t4 t5) (own_v6_273 x0 x1 x2 x3 x4 x5 t0 t1 t2 t3 t4 t5)
def own_v6_281 (x0 x1 x2 x3 x4 x5 t0 t1 t2 t3 t4 t5 : Int32) : Int32 := own_up x2 5 (own_v6_275 x0 x1 x2 x3 x4 x5 t0 t1 t2 t3 t4 t5) (own_v6_274 x0 x1 x2 x3 x4 x5 t0 t1 t2 t3 t4 t5)
def own_v6_282 (x0 x1 x2 x3 x4 x5 t0 t1 t2 t3 t4 t5 : Int32) : Int32 := own_cat6 (own_v6_276 x0 x1 x2 x3 x4 x5 t0 t1 t2 t3 t4 t5) (own_v6_277 x0 x1 x2 x3 x4 x5 t0 t1 t2 t3 t4 t5) (own_v6_278 x0 x1 x2 x3 x4 x5 t0 t1 t2 t3 t4 t5) (own_v6_279 x0 x1 x2 x3 x4 x5 t0 t1 t2 t3 t4 t5) (own_v6_280 x0 x1 x2 x3 x4 x5 t0 t1 t2 t3 t4 t5) (own_v6_281 x0 x1 x2 x3 x4 x5 t0 t1 t2 t3 t4 t5) x0
def own_v6_283 (x0 x1 x2 x3 x4 x5 t0 t1 t2 t3 t4 t5 : Int32) : Int32 := own_up x1 0 (own_v6_282 x0 x1 x2 x3 x4 x5 t0 t1 t2 t3 t4 t5) (own_v6_276 x0 x1 x2 x3 x4 x5 t0 t1 t2 t3 t4 t5)
def own_v6_284 (x0 x1 x2 x3 x4 x5 t0 t1 t2 t3 t4 t5 : Int32) : Int32 := own_up x1 1 (own_v6_282 x0 x1 x2 x3 x4 x5 t0 t1 t2 t3 t4 t5) (own_v6_277 x0 x1 x2 x3 x4 x5 t0 t1 t2 t3 t4 t5)
def own_v6_285 (x0 x1 x2 x3 x4 x5 t0 t1 t2 t3 t4 t5 : Int32) : Int32 := own_up x1 2 (own_v6_282 x0 x1 x2 x3 x4 x5 t0 t1 t2 t3 t4 t5) (own_v6_278 x0 x1 x2 x3 x4 x5 t0 t1 t2 t3 t4 t5)
def own_v6_286 (x0 x1 x2 x3 x4 x5 t0 t1 t2 t3 t4 t5 : Int32) : Int32 := own_up x1 3 (own_v6_282 x0 x1 x2 x3 x4 x5 t0 t1 t2 t3 t4 t5) (own_v6_279 x0 x1 x2 x3 x4 x5 t0 t1 t2 t3 t4 t5)
def own_v6_287 (x0 x1 x2 x3 x4 x5 t0 t1 t2 t3 t4 t5 : Int32) : Int32 := own_up x1 4 (own_v6_282 x0 x1 x2 x3 x4 x5 t0 t1 t2 t3 t4 t5) (own_v6_280 x0 x1 x2 x3 x4 x5 t0 t1 t2 t3 t4 t5)
def own_v6_288 (x0 x1 x2 x3 x4 x5 t0 t1 t2 t3 t4 t5 : Int32) : Int32 := own_up x1 5 (own_v6_282 x0 x1 x2 x3 x4 x5 t0 t1 t2 t3 t4 t5) (own_v6_281 x0 x1 x2 x3 x4 x5 t0 t1 t2 t3 t4 t5)
def own_v6_289 (x0 x1 x2 x3 x4 x5 t0 t1 t2 t3 t4 t5 : Int32) : Int32 := own_up x0 0 (own_v6_253 x0 x1 x2 x3 x4 x5 t0 t1 t2 t3 t4 t5) (own_v6_283 x0 x1 x2 x3 x4 x5 t0 t1 t2 t3 t4 t5)
def own_v6_290 (x0 x1 x2 x3 x4 x5 t0 t1 t2 t3 t4 t5 : Int32) : Int32 := own_up x0 1 (own_v6_253 x0 x1 x2 x3 x4 x5 t0 t1 t2 t3 t4 t5) (own_v6_284 x0 x1 x2 x3 x4 x5 t0 t1 t2 t3 t4 t5)
def own_v6_291 (x0 x1 x2 x3 x4 x5 t0 t1 t2 t3 t4 t5 : Int32) : Int32 := own_up x0 2 (own_v6_253 x0 x1 x2 x3 x4 x5 t0 t1 t2 t3 t4 t5) (own_v6_285 x0 x1 x2 x3 x4 x5 t0 t1 t2 t3 t4 t5)
def own_v6_292 (x0 x1 x2 x3 x4 x5 t0 t1 t2 t3 t4 t5 : Int32) : Int32 := own_up x0 3 (own_v6_253 x0 x1 x2 x3 x4 x5 t0 t1 t2 t3 t4 t5) (own_v6_286 x0 x1 x2 x3 x4 x5 t0 t1 t2 t3 t4 t5)
def own_v6_293 (x0 x1 x2 x3 x4 x5 t0 t1 t2 t3 t4 t5 : Int32) : Int32 := own_up x0 4 (own_v6_253 x0 x1 x2 x3 x4 x5 t0 t1 t2 t3 t4 t5) (own_v6_287 x0 x1 x2 x3 x4 x5 t0 t1 t2 t3 t4 t5)
def own_v6_294 (x0 x1 x2 x3 x4 x5 t0 t1 t2 t3 t4 t5 : Int32) : Int32 := own_up x0 5 (own_v6_253 x0 x1 x2 x3 x4 x5 t0 t1 t2 t3 t4 t5) (own_v6_288 x0 x1 x2 x3 x4 x5 t0 t1 t2 t3 t4 t5)

def own_Q2_6 (Z : State) (a1 : Addr) (a2 : Addr) (t0 : Int32) (t1 : Int32) (t2 : Int32) (t3 : Int32) (t4 : Int32) (t5 : Int32) (x0 : Int32) (x1 : Int32) (x2 : Int32) (x3 : Int32) (x4 : Int32) (x5 : Int32) (h0 : Heap) (n0 : Nat) (v : Option Value) (h : Heap) (L : List Loc) : Prop := v = none ∧ Fr n0 L ∧ Keep h0 h [a1] ∧ own_A Z h a1 .int [.int (own_v6_247 x0 x1 x2 x3 x4 x5 t0 t1 t2 t3 t4 t5), .int (own_v6_248 x0 x1 x2 x3 x4 x5 t0 t1 t2 t3 t4 t5), .int (own_v6_249 x0 x1 x2 x3 x4 x5 t0 t1 t2 t3 t4 t5), .int (own_v6_250 x0 x1 x2 x3 x4 x5 t0 t1 t2 t3 t4 t5), .int (own_v6_251 x0 x1 x2 x3 x4 x5 t0 t1 t2 t3 t4 t5), .int (own_v6_252 x0 x1 x2 x3 x4 x5 t0 t1 t2 t3 t4 t5)] ∧ own_A Z h a2 .int [.int x0, .int x1, .int x2, .int x3, .int x4, .int x5]
set_option maxRecDepth 65536 in
set_option maxHeartbeats 40000000 in
theorem rm2_6 (l : Launch) (Z : State) (a0 : Array Value) (hw : ∀ d ∈ tables_1, d.before a0 Z = true) (ws : List Jvm.Cond) (a1 : Addr) (a2 : Addr) (t0 : Int32) (t1 : Int32) (t2 : Int32) (t3 : Int32) (t4 : Int32) (t5 : Int32) (x0 : Int32) (x1 : Int32) (x2 : Int32) (x3 : Int32) (x4 : Int32) (x5 : Int32) (h0 : Heap) (n0 : Nat) (V0p : own_A Z h0 a1 .int [.int t0, .int t1, .int t2, .int t3, .int t4, .int t5]) (V1p : own_A Z h0 a2 .int [.int x0, .int x1, .int x2, .int x3, .int x4, .int x5]) (G_a1 : n0 ≤ a1) (ne_a2_a1 : a2 ≠ a1) (hS : own_S6 x0 x1 x2 x3 x4 x5) :
    MetFree l (⟨"com/example/tourloom/tourloom/GeneticOperators", "shiftRound", "([I[I)V"⟩ : MethodName) (head1 (Jvm.Cond.code (⟨"com/example/tourloom/tourloom/GeneticOperators", "shiftRound", "([I[I)V"⟩ : MethodName) prog_15_method_6_code 4 none :: ws) ({ frames := 0, cells := 0, slots := 0, locals := 0 } : Room)) (fun a U => a = #[.ref a1, .ref a2] ∧ Z.Warmed39 U.vm ∧ U.heap = h0) (fun _ _ _ _ _ => True) (fun _ U o U' => ∃ v L, o = .returned v ∧ own_Q2_6 Z a1 a2 t0 t1 t2 t3 t4 t5 x0 x1 x2 x3 x4 x5 h0 n0 v U'.heap L ∧ FrameEnd U o U' L ({ frames := 0, cells := 0, slots := 0, locals := 0 } : Room).cells ({ frames := 0, cells := 0, slots := 0, locals := 0 } : Room).slots) := by
  refine MetFree.of_bodySF (plainFor_of_name own_pn2) hisR ?_
  intro p e s m args below meth c s₁ Bd hml0 hP hK
  obtain ⟨rfl, hZ, hh⟩ := hP
  have hx := Bd.exec
  have hby := Bd.bytes
  have hml : c.maxLocals = 4 := hml0
  have hown : s.vm.findClass "com/example/tourloom/tourloom/GeneticOperators" = some m.cls := findClass_of_methodNamed Bd.named
  have hnm := (name_of_methodNamed Bd.named Bd.method).1
  have hlk : meth.locks = false := BodyLoose.notSynchronized Bd
  have X0 : Stand p l e ({ frames := 0, cells := 0, slots := 0, locals := 0 } : Room) s m #[.ref a1, .ref a2] below meth c s₁ [] 0 0 := Stand.of_body Bd
  have e0 : s₁.heap = h0 := by rw [← hh, Bd.state]; rfl
  have N0 := Fr.nil n0
  have K0 := Keep.refl h0 [a1]
  show own_Go p e below (own_E s 0 0 (own_Q2_6 Z a1 a2 t0 t1 t2 t3 t4 t5 x0 x1 x2 x3 x4 x5 h0 n0)) (s₁.setTop (entryFrame m #[.ref a1, .ref a2] 4))
  rw [own_ef2]
  refine own_aloadN X0 hx (hb hby own_d2_0) (q := 1) rfl rfl rfl ?_
  refine own_aloadN X0 hx (hb hby own_d2_1) (q := 2) rfl rfl rfl ?_
  refine own_aloadN X0 hx (hb hby own_d2_2) (q := 3) rfl rfl rfl ?_
  refine own_alen X0 hx hZ (n := (6 : Int32)) e0 V1p rfl (hb hby own_d2_3) (q := 4) rfl ?_
  refine own_iconst X0 hx (v := (1 : Int32)) (hb hby own_d2_4) (q := 5) rfl rfl ?_
  refine own_isub X0 hx (hb hby own_d2_5) (q := 6) rfl ?_
  rw [show ((6 : Int32) - (1 : Int32) : Int32) = (5 : Int32) from by decide]
  refine own_iaload X0 hx hZ (i := 5) (v := .int x5) e0 V1p (by decide) (by decide) rfl (hb hby own_d2_6) (q := 7) rfl ?_
  refine own_iaload X0 hx hZ (i := (x5).toNatClampNeg) (v := .int (own_v6_253 x0 x1 x2 x3 x4 x5 t0 t1 t2 t3 t4 t5)) e0 V0p (own_nn6 (own_S6_5 hS)) rfl (own_cat6V (own_S6_5 hS)) (hb hby own_d2_7) (q := 8) rfl ?_
  refine own_istoreN (L' := #[.val (.ref a1), .val (.ref a2), .val (.int (own_v6_253 x0 x1 x2 x3 x4 x5 t0 t1 t2 t3 t4 t5)), .unset]) X0 hx (hb hby own_d2_8) (q := 9) rfl rfl ?_
  refine own_aloadN X0 hx (hb hby own_d2_9) (q := 10) rfl rfl rfl ?_
  refine own_alen X0 hx hZ (n := (6 : Int32)) e0 V1p rfl (hb hby own_d2_10) (q := 11) rfl ?_
  refine own_iconst X0 hx (v := (1 : Int32)) (hb hby own_d2_11) (q := 12) rfl rfl ?_
  refine own_isub X0 hx (hb hby own_d2_12) (q := 13) rfl ?_
  rw [show ((6 : Int32) - (1 : Int32) : Int32) = (5 : Int32) from by decide]
  refine own_istoreN (L' := #[.val (.ref a1), .val (.ref a2), .val (.int (own_v6_253 x0 x1 x2 x3 x4 x5 t0 t1 t2 t3 t4 t5)), .val (.int (5 : Int32))]) X0 hx (hb hby own_d2_13) (q := 14) rfl rfl ?_
  refine own_iloadN X0 hx (hb hby own_d2_14) (q := 15) rfl rfl ?_
  refine own_if0M X0 hx (hb hby own_d2_15) (cd := .le) (x := (5 : Int32)) (pt := 36) (q := 18) (by decide) (by decide) rfl rfl (fun h => False.elim (h ((by decide) : (0 : Int32) < (5 : Int32)))) (fun _ => ?_)
  refine own_aloadN X0 hx (hb hby own_d2_18) (q := 19) rfl rfl rfl ?_
  refine own_aloadN X0 hx (hb hby own_d2_19) (q := 20) rfl rfl rfl ?_
  refine own_iloadN X0 hx (hb hby own_d2_20) (q := 21) rfl rfl ?_
  refine own_iaload X0 hx hZ (i := 5) (v := .int x5) e0 V1p (by decide) (by decide) rfl (hb hby own_d2_21) (q := 22) rfl ?_
  refine own_aloadN X0 hx (hb hby own_d2_22) (q := 23) rfl rfl rfl ?_
  refine own_aloadN X0 hx (hb hby own_d2_23) (q := 24) rfl rfl rfl ?_
  refine own_iloadN X0 hx (hb hby own_d2_24) (q := 25) rfl rfl ?_
  refine own_iconst X0 hx (v := (1 : Int32)) (hb hby own_d2_25) (q := 26) rfl rfl ?_
  refine own_isub X0 hx (hb hby own_d2_26) (q := 27) rfl ?_
  rw [show ((5 : Int32) - (1 : Int32) : Int32) = (4 : Int32) from by decide]
  refine own_iaload X0 hx hZ (i := 4) (v := .int x4) e0 V1p (by decide) (by decide) rfl (hb hby own_d2_27) (q := 28) rfl ?_
  refine own_iaload X0 hx hZ (i := (x4).toNatClampNeg) (v := .int (own_v6_254 x0 x1 x2 x3 x4 x5 t0 t1 t2 t3 t4 t5)) e0 V0p (own_nn6 (own_S6_4 hS)) rfl (own_cat6V (own_S6_4 hS)) (hb hby own_d2_28) (q := 29) rfl ?_
  refine own_iastore X0 hx hZ (i := (x5).toNatClampNeg) e0 V0p (own_nn6 (own_S6_5 hS)) rfl (own_lt6 (own_S6_5 hS)) (hb hby own_d2_29) (q := 30) rfl (fun T430 h433 X431 e432 W434 A435 => ?_)
  replace A435 : own_A Z h433 a1 .int [.int (own_v6_255 x0 x1 x2 x3 x4 x5 t0 t1 t2 t3 t4 t5), .int (own_v6_256 x0 x1 x2 x3 x4 x5 t0 t1 t2 t3 t4 t5), .int (own_v6_257 x0 x1 x2 x3 x4 x5 t0 t1 t2 t3 t4 t5), .int (own_v6_258 x0 x1 x2 x3 x4 x5 t0 t1 t2 t3 t4 t5), .int (own_v6_259 x0 x1 x2 x3 x4 x5 t0 t1 t2 t3 t4 t5), .int (own_v6_260 x0 x1 x2 x3 x4 x5 t0 t1 t2 t3 t4 t5)] := by rw [own_set6 (own_S6_5 hS)] at A435; exact A435
  have V436 := V1p.other W434 ne_a2_a1
  have K437 := K0.wr W434 (Or.inl (List.mem_of_getElem? (i := 0) rfl))
  have N438 := Fr.snoc X431 N0 G_a1
  refine own_iinc (L' := #[.val (.ref a1), .val (.ref a2), .val (.int (own_v6_253 x0 x1 x2 x3 x4 x5 t0 t1 t2 t3 t4 t5)), .val (.int ((5 : Int32) + (-1 : Int32)))]) X431 hx (v := (-1 : Int32)) (hb hby own_d2_30) (q := 33) rfl rfl rfl rfl ?_
  rw [show ((5 : Int32) + (-1 : Int32) : Int32) = (4 : Int32) from by decide]
  refine own_goto X431 hx (hb hby own_d2_33) (q := 14) (by decide) (by decide) ?_
  refine own_iloadN X431 hx (hb hby own_d2_14) (q := 15) rfl rfl ?_
  refine own_if0M X431 hx (hb hby own_d2_15) (cd := .le) (x := (4 : Int32)) (pt := 36) (q := 18) (by decide) (by decide) rfl rfl (fun h => False.elim (h ((by decide) : (0 : Int32) < (4 : Int32)))) (fun _ => ?_)
  refine own_aloadN X431 hx (hb hby own_d2_18) (q := 19) rfl rfl rfl ?_
  refine own_aloadN X431 hx (hb hby own_d2_19) (q := 20) rfl rfl rfl ?_
  refine own_iloadN X431 hx (hb hby own_d2_20) (q := 21) rfl rfl ?_
  refine own_iaload X431 hx hZ (i := 4) (v := .int x4) e432 V436 (by decide) (by decide) rfl (hb hby own_d2_21) (q := 22) rfl ?_
  refine own_aloadN X431 hx (hb hby own_d2_22) (q := 23) rfl rfl rfl ?_
  refine own_aloadN X431 hx (hb hby own_d2_23) (q := 24) rfl rfl rfl ?_
  refine own_iloadN X431 hx (hb hby own_d2_24) (q := 25) rfl rfl ?_
  refine own_iconst X431 hx (v := (1 : Int32)) (hb hby own_d2_25) (q := 26) rfl rfl ?_
  refine own_isub X431 hx (hb hby own_d2_26) (q := 27) rfl ?_
  rw [show ((4 : Int32) - (1 : Int32) : Int32) = (3 : Int32) from by decide]
  refine own_iaload X431 hx hZ (i := 3) (v := .int x3) e432 V436 (by decide) (by decide) rfl (hb hby own_d2_27) (q := 28) rfl ?_
  refine own_iaload X431 hx hZ (i := (x3).toNatClampNeg) (v := .int (own_v6_261 x0 x1 x2 x3 x4 x5 t0 t1 t2 t3 t4 t5)) e432 A435 (own_nn6 (own_S6_3 hS)) rfl (own_cat6V (own_S6_3 hS)) (hb hby own_d2_28) (q := 29) rfl ?_
  refine own_iastore X431 hx hZ (i := (x4).toNatClampNeg) e432 A435 (own_nn6 (own_S6_4 hS)) rfl (own_lt6 (own_S6_4 hS)) (hb hby own_d2_29) (q := 30) rfl (fun T439 h442 X440 e441 W443 A444 => ?_)
  replace A444 : own_A Z h442 a1 .int [.int (own_v6_262 x0 x1 x2 x3 x4 x5 t0 t1 t2 t3 t4 t5), .int (own_v6_263 x0 x1 x2 x3 x4 x5 t0 t1 t2 t3 t4 t5), .int (own_v6_264 x0 x1 x2 x3 x4 x5 t0 t1 t2 t3 t4 t5), .int (own_v6_265 x0 x1 x2 x3 x4 x5 t0 t1 t2 t3 t4 t5), .int (own_v6_266 x0 x1 x2 x3 x4 x5 t0 t1 t2 t3 t4 t5), .int (own_v6_267 x0 x1 x2 x3 x4 x5 t0 t1 t2 t3 t4 t5)] := by rw [own_set6 (own_S6_4 hS)] at A444; exact A444
  have V445 := V436.other W443 ne_a2_a1
  have K446 := K437.wr W443 (Or.inl (List.mem_of_getElem? (i := 0) rfl))
  have N447 := Fr.snoc X440 N438 G_a1
  refine own_iinc (L' := #[.val (.ref a1), .val (.ref a2), .val (.int (own_v6_253 x0 x1 x2 x3 x4 x5 t0 t1 t2 t3 t4 t5)), .val (.int ((4 : Int32) + (-1 : Int32)))]) X440 hx (v := (-1 : Int32)) (hb hby own_d2_30) (q := 33) rfl rfl rfl rfl ?_
  rw [show ((4 : Int32) + (-1 : Int32) : Int32) = (3 : Int32) from by decide]
  refine own_goto X440 hx (hb hby own_d2_33) (q := 14) (by decide) (by decide) ?_
  refine own_iloadN X440 hx (hb hby own_d2_14) (q := 15) rfl rfl ?_
  refine own_if0M X440 hx (hb hby own_d2_15) (cd := .le) (x := (3 : Int32)) (pt := 36) (q := 18) (by decide) (by decide) rfl rfl (fun h => False.elim (h ((by decide) : (0 : Int32) < (3 : Int32)))) (fun _ => ?_)
  refine own_aloadN X440 hx (hb hby own_d2_18) (q := 19) rfl rfl rfl ?_
  refine own_aloadN X440 hx (hb hby own_d2_19) (q := 20) rfl rfl rfl ?_
  refine own_iloadN X440 hx (hb hby own_d2_20) (q := 21) rfl rfl ?_
  refine own_iaload X440 hx hZ (i := 3) (v := .int x3) e441 V445 (by decide) (by decide) rfl (hb hby own_d2_21) (q := 22) rfl ?_
  refine own_aloadN X440 hx (hb hby own_d2_22) (q := 23) rfl rfl rfl ?_
  refine own_aloadN X440 hx (hb hby own_d2_23) (q := 24) rfl rfl rfl ?_
  refine own_iloadN X440 hx (hb hby own_d2_24) (q := 25) rfl rfl ?_
  refine own_iconst X440 hx (v := (1 : Int32)) (hb hby own_d2_25) (q := 26) rfl rfl ?_
  refine own_isub X440 hx (hb hby own_d2_26) (q := 27) rfl ?_
  rw [show ((3 : Int32) - (1 : Int32) : Int32) = (2 : Int32) from by decide]
  refine own_iaload X440 hx hZ (i := 2) (v := .int x2) e441 V445 (by decide) (by decide) rfl (hb hby own_d2_27) (q := 28) rfl ?_
  refine own_iaload X440 hx hZ (i := (x2).toNatClampNeg) (v := .int (own_v6_268 x0 x1 x2 x3 x4 x5 t0 t1 t2 t3 t4 t5)) e441 A444 (own_nn6 (own_S6_2 hS)) rfl (own_cat6V (own_S6_2 hS)) (hb hby own_d2_28) (q := 29) rfl ?_
  refine own_iastore X440 hx hZ (i := (x3).toNatClampNeg) e441 A444 (own_nn6 (own_S6_3 hS)) rfl (own_lt6 (own_S6_3 hS)) (hb hby own_d2_29) (q := 30) rfl (fun T448 h451 X449 e450 W452 A453 => ?_)
  replace A453 : own_A Z h451 a1 .int [.int (own_v6_269 x0 x1 x2 x3 x4 x5 t0 t1 t2 t3 t4 t5), .int (own_v6_270 x0 x1 x2 x3 x4 x5 t0 t1 t2 t3 t4 t5), .int (own_v6_271 x0 x1 x2 x3 x4 x5 t0 t1 t2 t3 t4 t5), .int (own_v6_272 x0 x1 x2 x3 x4 x5 t0 t1 t2 t3 t4 t5), .int (own_v6_273 x0 x1 x2 x3 x4 x5 t0 t1 t2 t3 t4 t5), .int (own_v6_274 x0 x1 x2 x3 x4 x5 t0 t1 t2 t3 t4 t5)] := by rw [own_set6 (own_S6_3 hS)] at A453; exact A453
  have V454 := V445.other W452 ne_a2_a1
  have K455 := K446.wr W452 (Or.inl (List.mem_of_getElem? (i := 0) rfl))
  have N456 := Fr.snoc X449 N447 G_a1
  refine own_iinc (L' := #[.val (.ref a1), .val (.ref a2), .val (.int (own_v6_253 x0 x1 x2 x3 x4 x5 t0 t1 t2 t3 t4 t5)), .val (.int ((3 : Int32) + (-1 : Int32)))]) X449 hx (v := (-1 : Int32)) (hb hby own_d2_30) (q := 33) rfl rfl rfl rfl ?_
  rw [show ((3 : Int32) + (-1 : Int32) : Int32) = (2 : Int32) from by decide]
  refine own_goto X449 hx (hb hby own_d2_33) (q := 14) (by decide) (by decide) ?_
  refine own_iloadN X449 hx (hb hby own_d2_14) (q := 15) rfl rfl ?_
  refine own_if0M X449 hx (hb hby own_d2_15) (cd := .le) (x := (2 : Int32)) (pt := 36) (q := 18) (by decide) (by decide) rfl rfl (fun h => False.elim (h ((by decide) : (0 : Int32) < (2 : Int32)))) (fun _ => ?_)
  refine own_aloadN X449 hx (hb hby own_d2_18) (q := 19) rfl rfl rfl ?_
  refine own_aloadN X449 hx (hb hby own_d2_19) (q := 20) rfl rfl rfl ?_
  refine own_iloadN X449 hx (hb hby own_d2_20) (q := 21) rfl rfl ?_
  refine own_iaload X449 hx hZ (i := 2) (v := .int x2) e450 V454 (by decide) (by decide) rfl (hb hby own_d2_21) (q := 22) rfl ?_
  refine own_aloadN X449 hx (hb hby own_d2_22) (q := 23) rfl rfl rfl ?_
  refine own_aloadN X449 hx (hb hby own_d2_23) (q := 24) rfl rfl rfl ?_
  refine own_iloadN X449 hx (hb hby own_d2_24) (q := 25) rfl rfl ?_
  refine own_iconst X449 hx (v := (1 : Int32)) (hb hby own_d2_25) (q := 26) rfl rfl ?_
  refine own_isub X449 hx (hb hby own_d2_26) (q := 27) rfl ?_
  rw [show ((2 : Int32) - (1 : Int32) : Int32) = (1 : Int32) from by decide]
  refine own_iaload X449 hx hZ (i := 1) (v := .int x1) e450 V454 (by decide) (by decide) rfl (hb hby own_d2_27) (q := 28) rfl ?_
  refine own_iaload X449 hx hZ (i := (x1).toNatClampNeg) (v := .int (own_v6_275 x0 x1 x2 x3 x4 x5 t0 t1 t2 t3 t4 t5)) e450 A453 (own_nn6 (own_S6_1 hS)) rfl (own_cat6V (own_S6_1 hS)) (hb hby own_d2_28) (q := 29) rfl ?_
  refine own_iastore X449 hx hZ (i := (x2).toNatClampNeg) e450 A453 (own_nn6 (own_S6_2 hS)) rfl (own_lt6 (own_S6_2 hS)) (hb hby own_d2_29) (q := 30) rfl (fun T457 h460 X458 e459 W461 A462 => ?_)
  replace A462 : own_A Z h460 a1 .int [.int (own_v6_276 x0 x1 x2 x3 x4 x5 t0 t1 t2 t3 t4 t5), .int (own_v6_277 x0 x1 x2 x3 x4 x5 t0 t1 t2 t3 t4 t5), .int (own_v6_278 x0 x1 x2 x3 x4 x5 t0 t1 t2 t3 t4 t5), .int (own_v6_279 x0 x1 x2 x3 x4 x5 t0 t1 t2 t3 t4 t5), .int (own_v6_280 x0 x1 x2 x3 x4 x5 t0 t1 t2 t3 t4 t5), .int (own_v6_281 x0 x1 x2 x3 x4 x5 t0 t1 t2 t3 t4 t5)] := by rw [own_set6 (own_S6_2 hS)] at A462; exact A462
  have V463 := V454.other W461 ne_a2_a1
  have K464 := K455.wr W461 (Or.inl (List.mem_of_getElem? (i := 0) rfl))
  have N465 := Fr.snoc X458 N456 G_a1
  refine own_iinc (L' := #[.val (.ref a1), .val (.ref a2), .val (.int (own_v6_253 x0 x1 x2 x3 x4 x5 t0 t1 t2 t3 t4 t5)), .val (.int ((2 : Int32) + (-1 : Int32)))]) X458 hx (v := (-1 : Int32)) (hb hby own_d2_30) (q := 33) rfl rfl rfl rfl ?_
  rw [show ((2 : Int32) + (-1 : Int32) : Int32) = (1 : Int32) from by decide]
  refine own_goto X458 hx (hb hby own_d2_33) (q := 14) (by decide) (by decide) ?_
  refine own_iloadN X458 hx (hb hby own_d2_14) (q := 15) rfl rfl ?_
  refine own_if0M X458 hx (hb hby own_d2_15) (cd := .le) (x := (1 : Int32)) (pt := 36) (q := 18) (by decide) (by decide) rfl rfl (fun h => False.elim (h ((by decide) : (0 : Int32) < (1 : Int32)))) (fun _ => ?_)
  refine own_aloadN X458 hx (hb hby own_d2_18) (q := 19) rfl rfl rfl ?_
  refine own_aloadN X458 hx (hb hby own_d2_19) (q := 20) rfl rfl rfl ?_
  refine own_iloadN X458 hx (hb hby own_d2_20) (q := 21) rfl rfl ?_
  refine own_iaload X458 hx hZ (i := 1) (v := .int x1) e459 V463 (by decide) (by decide) rfl (hb hby own_d2_21) (q := 22) rfl ?_
  refine own_aloadN X458 hx (hb hby own_d2_22) (q := 23) rfl rfl rfl ?_
  refine own_aloadN X458 hx (hb hby own_d2_23) (q := 24) rfl rfl rfl ?_
  refine own_iloadN X458 hx (hb hby own_d2_24) (q := 25) rfl rfl ?_
  refine own_iconst X458 hx (v := (1 : Int32)) (hb hby own_d2_25) (q := 26) rfl rfl ?_
  refine own_isub X458 hx (hb hby own_d2_26) (q := 27) rfl ?_
  rw [show ((1 : Int32) - (1 : Int32) : Int32) = (0 : Int32) from by decide]
  refine own_iaload X458 hx hZ (i := 0) (v := .int x0) e459 V463 (by decide) (by decide) rfl (hb hby own_d2_27) (q := 28) rfl ?_
  refine own_iaload X458 hx hZ (i := (x0).toNatClampNeg) (v := .int (own_v6_282 x0 x1 x2 x3 x4 x5 t0 t1 t2 t3 t4 t5)) e459 A462 (own_nn6 (own_S6_0 hS)) rfl (own_cat6V (own_S6_0 hS)) (hb hby own_d2_28) (q := 29) rfl ?_
  refine own_iastore X458 hx hZ (i := (x1).toNatClampNeg) e459 A462 (own_nn6 (own_S6_1 hS)) rfl (own_lt6 (own_S6_1 hS)) (hb hby own_d2_29) (q := 30) rfl (fun T466 h469 X467 e468 W470 A471 => ?_)
  replace A471 : own_A Z h469 a1 .int [.int (own_v6_283 x0 x1 x2 x3 x4 x5 t0 t1 t2 t3 t4 t5), .int (own_v6_284 x0 x1 x2 x3 x4 x5 t0 t1 t2 t3 t4 t5), .int (own_v6_285 x0 x1 x2 x3 x4 x5 t0 t1 t2 t3 t4 t5), .int (own_v6_286 x0 x1 x2 x3 x4 x5 t0 t1 t2 t3 t4 t5), .int (own_v6_287 x0 x1 x2 x3 x4 x5 t0 t1 t2 t3 t4 t5), .int (own_v6_288 x0 x1 x2 x3 x4 x5 t0 t1 t2 t3 t4 t5)] := by rw [own_set6 (own_S6_1 hS)] at A471; exact A471
  have V472 := V463.other W470 ne_a2_a1
  have K473 := K464.wr W470 (Or.inl (List.mem_of_getElem? (i := 0) rfl))
  have N474 := Fr.snoc X467 N465 G_a1
  refine own_iinc (L' := #[.val (.ref a1), .val (.ref a2), .val (.int (own_v6_253 x0 x1 x2 x3 x4 x5 t0 t1 t2 t3 t4 t5)), .val (.int ((1 : Int32) + (-1 : Int32)))]) X467 hx (v := (-1 : Int32)) (hb hby own_d2_30) (q := 33) rfl rfl rfl rfl ?_
  rw [show ((1 : Int32) + (-1 : Int32) : Int32) = (0 : Int32) from by decide]
  refine own_goto X467 hx (hb hby own_d2_33) (q := 14) (by decide) (by decide) ?_
  refine own_iloadN X467 hx (hb hby own_d2_14) (q := 15) rfl rfl ?_
  refine own_if0M X467 hx (hb hby own_d2_15) (cd := .le) (x := (0 : Int32)) (pt := 36) (q := 18) (by decide) (by decide) rfl rfl (fun _ => ?_) (fun h => False.elim (((by decide) : ¬ ((0 : Int32) < (0 : Int32))) h))
  refine own_aloadN X467 hx (hb hby own_d2_36) (q := 37) rfl rfl rfl ?_
  refine own_aloadN X467 hx (hb hby own_d2_37) (q := 38) rfl rfl rfl ?_
  refine own_iconst X467 hx (v := (0 : Int32)) (hb hby own_d2_38) (q := 39) rfl rfl ?_
  refine own_iaload X467 hx hZ (i := 0) (v := .int x0) e468 V472 (by decide) (by decide) rfl (hb hby own_d2_39) (q := 40) rfl ?_
  refine own_iloadN X467 hx (hb hby own_d2_40) (q := 41) rfl rfl ?_
  refine own_iastore X467 hx hZ (i := (x0).toNatClampNeg) e468 A471 (own_nn6 (own_S6_0 hS)) rfl (own_lt6 (own_S6_0 hS)) (hb hby own_d2_41) (q := 42) rfl (fun T475 h478 X476 e477 W479 A480 => ?_)
  replace A480 : own_A Z h478 a1 .int [.int (own_v6_289 x0 x1 x2 x3 x4 x5 t0 t1 t2 t3 t4 t5), .int (own_v6_290 x0 x1 x2 x3 x4 x5 t0 t1 t2 t3 t4 t5), .int (own_v6_291 x0 x1 x2 x3 x4 x5 t0 t1 t2 t3 t4 t5), .int (own_v6_292 x0 x1 x2 x3 x4 x5 t0 t1 t2 t3 t4 t5), .int (own_v6_293 x0 x1 x2 x3 x4 x5 t0 t1 t2 t3 t4 t5), .int (own_v6_294 x0 x1 x2 x3 x4 x5 t0 t1 t2 t3 t4 t5)] := by rw [own_set6 (own_S6_0 hS)] at A480; exact A480
  have V481 := V472.other W479 ne_a2_a1
  have K482 := K473.wr W479 (Or.inl (List.mem_of_getElem? (i := 0) rfl))
  have N483 := Fr.snoc X476 N474 G_a1
  refine own_retV X476 hx hlk (rest := []) Bd.returns (hb hby own_d2_42) ?_ (by decide) (by decide)
  show own_Q2_6 Z a1 a2 t0 t1 t2 t3 t4 t5 x0 x1 x2 x3 x4 x5 h0 n0 _ T475.heap _
  rw [e477]
  exact ⟨rfl, N483, K482, A480, V481⟩
theorem own_ef3_k6 (m : MethodId) (a1 : Addr) (a2 : Addr) : entryFrame m #[.ref a1, .ref a2, .int (6 : Int32)] 4 = mkF m 0 #[.val (.ref a1), .val (.ref a2), .val (.int (6 : Int32)), .unset] [] := by first | (simp [entryFrame, mkF, argsToLocals, Value.category]; done) | rfl
theorem own_d3_142 : decode method_4_code 142 = .ok (.aload_n 0, 1) := by decide +kernel
theorem own_d3_143 : decode method_4_code 143 = .ok (.iconst 5, 1) := by decide +kernel
theorem own_d3_144 : decode method_4_code 144 = .ok (.iaload, 1) := by decide +kernel
theorem own_d3_145 : decode method_4_code 145 = .ok (.aload_n 1, 1) := by decide +kernel
theorem own_d3_146 : decode method_4_code 146 = .ok (.iconst 5, 1) := by decide +kernel
theorem own_d3_147 : decode method_4_code 147 = .ok (.iaload, 1) := by decide +kernel
theorem own_d3_148 : decode method_4_code 148 = .ok (.if_icmp .ne 7, 3) := by decide +kernel
theorem own_d3_151 : decode method_4_code 151 = .ok (.iconst 1, 1) := by decide +kernel
theorem own_d3_152 : decode method_4_code 152 = .ok (.goto 4, 3) := by decide +kernel
theorem own_d3_156 : decode method_4_code 156 = .ok (.istore_n 3, 1) := by decide +kernel
def own_f3_6 (x0 : Int32) (x1 : Int32) (x2 : Int32) (x3 : Int32) (x4 : Int32) (x5 : Int32) : Int32 := (1 : Int32)
set_option maxRecDepth 65536 in
set_option maxHeartbeats 40000000 in
theorem rm3_6 (l : Launch) (Z : State) (a0 : Array Value) (hw : ∀ d ∈ tables_1, d.before a0 Z = true) (ws : List Jvm.Cond) (a1 : Addr) (a2 : Addr) (x0 : Int32) (x1 : Int32) (x2 : Int32) (x3 : Int32) (x4 : Int32) (x5 : Int32) (h0 : Heap) (V0p : own_A Z h0 a1 .int [.int x0, .int x1, .int x2, .int x3, .int x4, .int x5]) (V1p : own_A Z h0 a2 .int [.int x0, .int x1, .int x2, .int x3, .int x4, .int x5]) :
    MetFree l (⟨"com/example/tourloom/tourloom/GeneticOperatorsShiftRoundPinLaw", "risingKept", "([I[II)Z"⟩ : MethodName) (head1 (Jvm.Cond.code (⟨"com/example/tourloom/tourloom/GeneticOperatorsShiftRoundPinLaw", "risingKept", "([I[II)Z"⟩ : MethodName) method_4_code 4 (some .boolean) :: ws) ({ frames := 0, cells := 0, slots := 0, locals := 0 } : Room)) (fun a U => a = #[.ref a1, .ref a2, .int (6 : Int32)] ∧ Z.Warmed39 U.vm ∧ U.heap = h0) (fun _ _ _ _ _ => True) (fun _ U o U' => ∃ v L, o = .returned v ∧ own_P (.int (own_f3_6 x0 x1 x2 x3 x4 x5)) h0 v U'.heap L ∧ FrameEnd U o U' L ({ frames := 0, cells := 0, slots := 0, locals := 0 } : Room).cells ({ frames := 0, cells := 0, slots := 0, locals := 0 } : Room).slots) := by
  refine MetFree.of_bodySF (plainFor_of_name own_pn0) hisR ?_
  intro p e s m args below meth c s₁ Bd hml0 hP hK
  obtain ⟨rfl, hZ, hh⟩ := hP
  have hx := Bd.exec
  have hby := Bd.bytes
  have hml : c.maxLocals = 4 := hml0
  have hown : s.vm.findClass "com/example/tourloom/tourloom/GeneticOperatorsShiftRoundPinLaw" = some m.cls := findClass_of_methodNamed Bd.named
  have hnm := (name_of_methodNamed Bd.named Bd.method).1
  have hlk : meth.locks = false := BodyLoose.notSynchronized Bd
  have X0 : Stand p l e ({ frames := 0, cells := 0, slots := 0, locals := 0 } : Room) s m #[.ref a1, .ref a2, .int (6 : Int32)] below meth c s₁ [] 0 0 := Stand.of_body Bd
  have e0 : s₁.heap = h0 := by rw [← hh, Bd.state]; rfl
  show own_Go p e below (own_E s 0 0 (own_P (.int (own_f3_6 x0 x1 x2 x3 x4 x5)) h0)) (s₁.setTop (entryFrame m #[.ref a1, .ref a2, .int (6 : Int32)] 4))
  rw [own_ef3_k6]
  refine own_aloadN X0 hx (hb hby own_d3_0) (q := 1) rfl rfl rfl ?_
  refine own_alen X0 hx hZ (n := (6 : Int32)) e0 V0p rfl (hb hby own_d3_1) (q := 2) rfl ?_
  refine own_iloadN X0 hx (hb hby own_d3_2) (q := 3) rfl rfl ?_
  refine own_icmpM X0 hx (hb hby own_d3_3) (cd := .ne) (x := (6 : Int32)) (y := (6 : Int32)) (pt := 10) (q := 6) (by decide) (by decide) rfl rfl (fun h => False.elim (h ((by decide) : (6 : Int32) = (6 : Int32)))) (fun _ => ?_)
  refine own_iconst X0 hx (v := (1 : Int32)) (hb hby own_d3_6) (q := 7) rfl rfl ?_
  refine own_goto X0 hx (hb hby own_d3_7) (q := 11) (by decide) (by decide) ?_
  refine own_istoreN (L' := #[.val (.ref a1), .val (.ref a2), .val (.int (6 : Int32)), .val (.int (1 : Int32))]) X0 hx (hb hby own_d3_11) (q := 12) rfl rfl ?_
  refine own_iloadN X0 hx (hb hby own_d3_12) (q := 13) rfl rfl ?_
  refine own_if0P X0 hx (hb hby own_d3_13) (cd := .eq) (x := (1 : Int32)) (pt := 36) (q := 16) (by decide) (by decide) rfl rfl (fun h => False.elim (((by decide) : ¬ ((1 : Int32) = (0 : Int32))) h)) (fun _ => ?_)
  refine own_iloadN X0 hx (hb hby own_d3_16) (q := 17) rfl rfl ?_
  refine own_iconst X0 hx (v := (1 : Int32)) (hb hby own_d3_17) (q := 18) rfl rfl ?_
  refine own_icmpP X0 hx (hb hby own_d3_18) (cd := .lt) (x := (6 : Int32)) (y := (1 : Int32)) (pt := 36) (q := 21) (by decide) (by decide) rfl rfl (fun h => False.elim (((by decide) : ¬ ((6 : Int32) < (1 : Int32))) h)) (fun _ => ?_)
  refine own_aloadN X0 hx (hb hby own_d3_21) (q := 22) rfl rfl rfl ?_
  refine own_iconst X0 hx (v := (0 : Int32)) (hb hby own_d3_22) (q := 23) rfl rfl ?_
  refine own_iaload X0 hx hZ (i := 0) (v := .int x0) e0 V0p (by decide) (by decide) rfl (hb hby own_d3_23) (q := 24) rfl ?_
  refine own_aloadN X0 hx (hb hby own_d3_24) (q := 25) rfl rfl rfl ?_
  refine own_iconst X0 hx (v := (0 : Int32)) (hb hby own_d3_25) (q := 26) rfl rfl ?_
  refine own_iaload X0 hx hZ (i := 0) (v := .int x0) e0 V1p (by decide) (by decide) rfl (hb hby own_d3_26) (q := 27) rfl ?_
  refine own_icmpM X0 hx (hb hby own_d3_27) (cd := .ne) (x := x0) (y := x0) (pt := 34) (q := 30) (by decide) (by decide) rfl rfl (fun h => False.elim (h (rfl : x0 = x0))) (fun _ => ?_)
  refine own_iconst X0 hx (v := (1 : Int32)) (hb hby own_d3_30) (q := 31) rfl rfl ?_
  refine own_goto X0 hx (hb hby own_d3_31) (q := 35) (by decide) (by decide) ?_
  refine own_istoreN (L' := #[.val (.ref a1), .val (.ref a2), .val (.int (6 : Int32)), .val (.int (1 : Int32))]) X0 hx (hb hby own_d3_35) (q := 36) rfl rfl ?_
  refine own_iloadN X0 hx (hb hby own_d3_36) (q := 37) rfl rfl ?_
  refine own_if0P X0 hx (hb hby own_d3_37) (cd := .eq) (x := (1 : Int32)) (pt := 60) (q := 40) (by decide) (by decide) rfl rfl (fun h => False.elim (((by decide) : ¬ ((1 : Int32) = (0 : Int32))) h)) (fun _ => ?_)
  refine own_iloadN X0 hx (hb hby own_d3_40) (q := 41) rfl rfl ?_
  refine own_iconst X0 hx (v := (2 : Int32)) (hb hby own_d3_41) (q := 42) rfl rfl ?_
  refine own_icmpP X0 hx (hb hby own_d3_42) (cd := .lt) (x := (6 : Int32)) (y := (2 : Int32)) (pt := 60) (q := 45) (by decide) (by decide) rfl rfl (fun h => False.elim (((by decide) : ¬ ((6 : Int32) < (2 : Int32))) h)) (fun _ => ?_)
  refine own_aloadN X0 hx (hb hby own_d3_45) (q := 46) rfl rfl rfl ?_
  refine own_iconst X0 hx (v := (1 : Int32)) (hb hby own_d3_46) (q := 47) rfl rfl ?_
  refine own_iaload X0 hx hZ (i := 1) (v := .int x1) e0 V0p (by decide) (by decide) rfl (hb hby own_d3_47) (q := 48) rfl ?_
  refine own_aloadN X0 hx (hb hby own_d3_48) (q := 49) rfl rfl rfl ?_
  refine own_iconst X0 hx (v := (1 : Int32)) (hb hby own_d3_49) (q := 50) rfl rfl ?_
  refine own_iaload X0 hx hZ (i := 1) (v := .int x1) e0 V1p (by decide) (by decide) rfl (hb hby own_d3_50) (q := 51) rfl ?_
  refine own_icmpM X0 hx (hb hby own_d3_51) (cd := .ne) (x := x1) (y := x1) (pt := 58) (q := 54) (by decide) (by decide) rfl rfl (fun h => False.elim (h (rfl : x1 = x1))) (fun _ => ?_)
  refine own_iconst X0 hx (v := (1 : Int32)) (hb hby own_d3_54) (q := 55) rfl rfl ?_
  refine own_goto X0 hx (hb hby own_d3_55) (q := 59) (by decide) (by decide) ?_
  refine own_istoreN (L' := #[.val (.ref a1), .val (.ref a2), .val (.int (6 : Int32)), .val (.int (1 : Int32))]) X0 hx (hb hby own_d3_59) (q := 60) rfl rfl ?_
  refine own_iloadN X0 hx (hb hby own_d3_60) (q := 61) rfl rfl ?_
  refine own_if0P X0 hx (hb hby own_d3_61) (cd := .eq) (x := (1 : Int32)) (pt := 84) (q := 64) (by decide) (by decide) rfl rfl (fun h => False.elim (((by decide) : ¬ ((1 : Int32) = (0 : Int32))) h)) (fun _ => ?_)
  refine own_iloadN X0 hx (hb hby own_d3_64) (q := 65) rfl rfl ?_
  refine own_iconst X0 hx (v := (3 : Int32)) (hb hby own_d3_65) (q := 66) rfl rfl ?_
  refine own_icmpP X0 hx (hb hby own_d3_66) (cd := .lt) (x := (6 : Int32)) (y := (3 : Int32)) (pt := 84) (q := 69) (by decide) (by decide) rfl rfl (fun h => False.elim (((by decide) : ¬ ((6 : Int32) < (3 : Int32))) h)) (fun _ => ?_)
  refine own_aloadN X0 hx (hb hby own_d3_69) (q := 70) rfl rfl rfl ?_
  refine own_iconst X0 hx (v := (2 : Int32)) (hb hby own_d3_70) (q := 71) rfl rfl ?_
  refine own_iaload X0 hx hZ (i := 2) (v := .int x2) e0 V0p (by decide) (by decide) rfl (hb hby own_d3_71) (q := 72) rfl ?_
  refine own_aloadN X0 hx (hb hby own_d3_72) (q := 73) rfl rfl rfl ?_
  refine own_iconst X0 hx (v := (2 : Int32)) (hb hby own_d3_73) (q := 74) rfl rfl ?_
  refine own_iaload X0 hx hZ (i := 2) (v := .int x2) e0 V1p (by decide) (by decide) rfl (hb hby own_d3_74) (q := 75) rfl ?_
  refine own_icmpM X0 hx (hb hby own_d3_75) (cd := .ne) (x := x2) (y := x2) (pt := 82) (q := 78) (by decide) (by decide) rfl rfl (fun h => False.elim (h (rfl : x2 = x2))) (fun _ => ?_)
  refine own_iconst X0 hx (v := (1 : Int32)) (hb hby own_d3_78) (q := 79) rfl rfl ?_
  refine own_goto X0 hx (hb hby own_d3_79) (q := 83) (by decide) (by decide) ?_
  refine own_istoreN (L' := #[.val (.ref a1), .val (.ref a2), .val (.int (6 : Int32)), .val (.int (1 : Int32))]) X0 hx (hb hby own_d3_83) (q := 84) rfl rfl ?_
  refine own_iloadN X0 hx (hb hby own_d3_84) (q := 85) rfl rfl ?_
  refine own_if0P X0 hx (hb hby own_d3_85) (cd := .eq) (x := (1 : Int32)) (pt := 108) (q := 88) (by decide) (by decide) rfl rfl (fun h => False.elim (((by decide) : ¬ ((1 : Int32) = (0 : Int32))) h)) (fun _ => ?_)
  refine own_iloadN X0 hx (hb hby own_d3_88) (q := 89) rfl rfl ?_
  refine own_iconst X0 hx (v := (4 : Int32)) (hb hby own_d3_89) (q := 90) rfl rfl ?_
  refine own_icmpP X0 hx (hb hby own_d3_90) (cd := .lt) (x := (6 : Int32)) (y := (4 : Int32)) (pt := 108) (q := 93) (by decide) (by decide) rfl rfl (fun h => False.elim (((by decide) : ¬ ((6 : Int32) < (4 : Int32))) h)) (fun _ => ?_)
  refine own_aloadN X0 hx (hb hby own_d3_93) (q := 94) rfl rfl rfl ?_
  refine own_iconst X0 hx (v := (3 : Int32)) (hb hby own_d3_94) (q := 95) rfl rfl ?_
  refine own_iaload X0 hx hZ (i := 3) (v := .int x3) e0 V0p (by decide) (by decide) rfl (hb hby own_d3_95) (q := 96) rfl ?_
  refine own_aloadN X0 hx (hb hby own_d3_96) (q := 97) rfl rfl rfl ?_
  refine own_iconst X0 hx (v := (3 : Int32)) (hb hby own_d3_97) (q := 98) rfl rfl ?_
  refine own_iaload X0 hx hZ (i := 3) (v := .int x3) e0 V1p (by decide) (by decide) rfl (hb hby own_d3_98) (q := 99) rfl ?_
  refine own_icmpM X0 hx (hb hby own_d3_99) (cd := .ne) (x := x3) (y := x3) (pt := 106) (q := 102) (by decide) (by decide) rfl rfl (fun h => False.elim (h (rfl : x3 = x3))) (fun _ => ?_)
  refine own_iconst X0 hx (v := (1 : Int32)) (hb hby own_d3_102) (q := 103) rfl rfl ?_
  refine own_goto X0 hx (hb hby own_d3_103) (q := 107) (by decide) (by decide) ?_
  refine own_istoreN (L' := #[.val (.ref a1), .val (.ref a2), .val (.int (6 : Int32)), .val (.int (1 : Int32))]) X0 hx (hb hby own_d3_107) (q := 108) rfl rfl ?_
  refine own_iloadN X0 hx (hb hby own_d3_108) (q := 109) rfl rfl ?_
  refine own_if0P X0 hx (hb hby own_d3_109) (cd := .eq) (x := (1 : Int32)) (pt := 132) (q := 112) (by decide) (by decide) rfl rfl (fun h => False.elim (((by decide) : ¬ ((1 : Int32) = (0 : Int32))) h)) (fun _ => ?_)
  refine own_iloadN X0 hx (hb hby own_d3_112) (q := 113) rfl rfl ?_
  refine own_iconst X0 hx (v := (5 : Int32)) (hb hby own_d3_113) (q := 114) rfl rfl ?_
  refine own_icmpP X0 hx (hb hby own_d3_114) (cd := .lt) (x := (6 : Int32)) (y := (5 : Int32)) (pt := 132) (q := 117) (by decide) (by decide) rfl rfl (fun h => False.elim (((by decide) : ¬ ((6 : Int32) < (5 : Int32))) h)) (fun _ => ?_)
  refine own_aloadN X0 hx (hb hby own_d3_117) (q := 118) rfl rfl rfl ?_
  refine own_iconst X0 hx (v := (4 : Int32)) (hb hby own_d3_118) (q := 119) rfl rfl ?_
  refine own_iaload X0 hx hZ (i := 4) (v := .int x4) e0 V0p (by decide) (by decide) rfl (hb hby own_d3_119) (q := 120) rfl ?_
  refine own_aloadN X0 hx (hb hby own_d3_120) (q := 121) rfl rfl rfl ?_
  refine own_iconst X0 hx (v := (4 : Int32)) (hb hby own_d3_121) (q := 122) rfl rfl ?_
  refine own_iaload X0 hx hZ (i := 4) (v := .int x4) e0 V1p (by decide) (by decide) rfl (hb hby own_d3_122) (q := 123) rfl ?_
  refine own_icmpM X0 hx (hb hby own_d3_123) (cd := .ne) (x := x4) (y := x4) (pt := 130) (q := 126) (by decide) (by decide) rfl rfl (fun h => False.elim (h (rfl : x4 = x4))) (fun _ => ?_)
  refine own_iconst X0 hx (v := (1 : Int32)) (hb hby own_d3_126) (q := 127) rfl rfl ?_
  refine own_goto X0 hx (hb hby own_d3_127) (q := 131) (by decide) (by decide) ?_
  refine own_istoreN (L' := #[.val (.ref a1), .val (.ref a2), .val (.int (6 : Int32)), .val (.int (1 : Int32))]) X0 hx (hb hby own_d3_131) (q := 132) rfl rfl ?_
  refine own_iloadN X0 hx (hb hby own_d3_132) (q := 133) rfl rfl ?_
  refine own_if0P X0 hx (hb hby own_d3_133) (cd := .eq) (x := (1 : Int32)) (pt := 157) (q := 136) (by decide) (by decide) rfl rfl (fun h => False.elim (((by decide) : ¬ ((1 : Int32) = (0 : Int32))) h)) (fun _ => ?_)
  refine own_iloadN X0 hx (hb hby own_d3_136) (q := 137) rfl rfl ?_
  refine own_bipush X0 hx (v := (6 : Int32)) (hb hby own_d3_137) (q := 139) rfl rfl ?_
  refine own_icmpP X0 hx (hb hby own_d3_139) (cd := .lt) (x := (6 : Int32)) (y := (6 : Int32)) (pt := 157) (q := 142) (by decide) (by decide) rfl rfl (fun h => False.elim (((by decide) : ¬ ((6 : Int32) < (6 : Int32))) h)) (fun _ => ?_)
  refine own_aloadN X0 hx (hb hby own_d3_142) (q := 143) rfl rfl rfl ?_
  refine own_iconst X0 hx (v := (5 : Int32)) (hb hby own_d3_143) (q := 144) rfl rfl ?_
  refine own_iaload X0 hx hZ (i := 5) (v := .int x5) e0 V0p (by decide) (by decide) rfl (hb hby own_d3_144) (q := 145) rfl ?_
  refine own_aloadN X0 hx (hb hby own_d3_145) (q := 146) rfl rfl rfl ?_
  refine own_iconst X0 hx (v := (5 : Int32)) (hb hby own_d3_146) (q := 147) rfl rfl ?_
  refine own_iaload X0 hx hZ (i := 5) (v := .int x5) e0 V1p (by decide) (by decide) rfl (hb hby own_d3_147) (q := 148) rfl ?_
  refine own_icmpM X0 hx (hb hby own_d3_148) (cd := .ne) (x := x5) (y := x5) (pt := 155) (q := 151) (by decide) (by decide) rfl rfl (fun h => False.elim (h (rfl : x5 = x5))) (fun _ => ?_)
  refine own_iconst X0 hx (v := (1 : Int32)) (hb hby own_d3_151) (q := 152) rfl rfl ?_
  refine own_goto X0 hx (hb hby own_d3_152) (q := 156) (by decide) (by decide) ?_
  refine own_istoreN (L' := #[.val (.ref a1), .val (.ref a2), .val (.int (6 : Int32)), .val (.int (1 : Int32))]) X0 hx (hb hby own_d3_156) (q := 157) rfl rfl ?_
  refine own_iloadN X0 hx (hb hby own_d3_157) (q := 158) rfl rfl ?_
  refine own_retN X0 hx hlk (t := .boolean) (by simp) Bd.returns (hb hby own_d3_158) ?_ (by decide) (by decide)
  have r : own_f3_6 x0 x1 x2 x3 x4 x5 = (1 : Int32) := by rw [own_f3_6]
  exact ⟨by rw [r] <;> rfl, e0, rfl⟩
theorem own_mask (x : Int32) : 1 ≤ ((x &&& (2147483647 : Int32)) % 63 + 1).toInt ∧ ((x &&& (2147483647 : Int32)) % 63 + 1).toInt ≤ 63 := by
  have h1 := c_mask x 2147483647 31 (by decide) (by decide)
  have h2 := (c_irem (x &&& (2147483647 : Int32)) 63 63 (by decide)).1 (by rw [h1]; omega)
  have h3 := c_iadd ((x &&& (2147483647 : Int32)) % 63) 1
  have h4 := rng32 ((x &&& (2147483647 : Int32)) % 63 + 1)
  simp only [Int32.reduceToInt] at *; omega
theorem own_zero {m : Int32} (h : 1 ≤ m.toInt ∧ m.toInt ≤ 63) (c1 : (m &&& 1) = 0) (c2 : (m &&& 2) = 0) (c4 : (m &&& 4) = 0) (c8 : (m &&& 8) = 0) (c16 : (m &&& 16) = 0) (c32 : (m &&& 32) = 0) : False := by
  have key : ∀ k : Fin 64, 1 ≤ k.val → (Int32.ofNat k.val &&& 1) = 0 → (Int32.ofNat k.val &&& 2) = 0 → (Int32.ofNat k.val &&& 4) = 0 → (Int32.ofNat k.val &&& 8) = 0 → (Int32.ofNat k.val &&& 16) = 0 → (Int32.ofNat k.val &&& 32) = 0 → False := by decide
  have e : m = Int32.ofNat m.toInt.toNat := by
    rw [← Int32.toInt_inj, Int32.toInt_ofNat_of_lt (by omega)]; omega
  have hk := key ⟨m.toInt.toNat, by omega⟩ (by show 1 ≤ m.toInt.toNat; omega)
  simp only [← e] at hk
  exact hk c1 c2 c4 c8 c16 c32
theorem own_pd0 : parseMethodDescriptor "([II)[I" = some ⟨[(.array .int), .int], some (.array .int)⟩ := by decide +kernel
def own_v1_295 (x0 t0 t1 t2 t3 t4 t5 : Int32) : Int32 := own_cat6 t0 t1 t2 t3 t4 t5 x0
def own_v1_296 (x0 t0 t1 t2 t3 t4 t5 : Int32) : Int32 := own_up x0 0 (own_v1_295 x0 t0 t1 t2 t3 t4 t5) t0
def own_v1_297 (x0 t0 t1 t2 t3 t4 t5 : Int32) : Int32 := own_up x0 1 (own_v1_295 x0 t0 t1 t2 t3 t4 t5) t1
def own_v1_298 (x0 t0 t1 t2 t3 t4 t5 : Int32) : Int32 := own_up x0 2 (own_v1_295 x0 t0 t1 t2 t3 t4 t5) t2
def own_v1_299 (x0 t0 t1 t2 t3 t4 t5 : Int32) : Int32 := own_up x0 3 (own_v1_295 x0 t0 t1 t2 t3 t4 t5) t3
def own_v1_300 (x0 t0 t1 t2 t3 t4 t5 : Int32) : Int32 := own_up x0 4 (own_v1_295 x0 t0 t1 t2 t3 t4 t5) t4
def own_v1_301 (x0 t0 t1 t2 t3 t4 t5 : Int32) : Int32 := own_up x0 5 (own_v1_295 x0 t0 t1 t2 t3 t4 t5) t5
theorem own_pd1 : parseMethodDescriptor "([I[I)V" = some ⟨[(.array .int), (.array .int)], none⟩ := by decide +kernel
theorem own_eq_1_422 {x0 t0 t1 t2 t3 t4 t5 : Int32} (hS : own_S1 x0) : (own_v1_2 x0 t0 t1 t2 t3 t4 t5) = (own_v1_296 x0 t0 t1 t2 t3 t4 t5) := by
  unfold own_S1 at hS; rcases hS with rfl | rfl | rfl | rfl | rfl | rfl <;> rfl
theorem own_eq_1_433 {x0 t0 t1 t2 t3 t4 t5 : Int32} (hS : own_S1 x0) : (own_v1_3 x0 t0 t1 t2 t3 t4 t5) = (own_v1_297 x0 t0 t1 t2 t3 t4 t5) := by
  unfold own_S1 at hS; rcases hS with rfl | rfl | rfl | rfl | rfl | rfl <;> rfl
theorem own_eq_1_444 {x0 t0 t1 t2 t3 t4 t5 : Int32} (hS : own_S1 x0) : (own_v1_4 x0 t0 t1 t2 t3 t4 t5) = (own_v1_298 x0 t0 t1 t2 t3 t4 t5) := by
  unfold own_S1 at hS; rcases hS with rfl | rfl | rfl | rfl | rfl | rfl <;> rfl
theorem own_eq_1_455 {x0 t0 t1 t2 t3 t4 t5 : Int32} (hS : own_S1 x0) : (own_v1_5 x0 t0 t1 t2 t3 t4 t5) = (own_v1_299 x0 t0 t1 t2 t3 t4 t5) := by
  unfold own_S1 at hS; rcases hS with rfl | rfl | rfl | rfl | rfl | rfl <;> rfl
theorem own_eq_1_466 {x0 t0 t1 t2 t3 t4 t5 : Int32} (hS : own_S1 x0) : (own_v1_6 x0 t0 t1 t2 t3 t4 t5) = (own_v1_300 x0 t0 t1 t2 t3 t4 t5) := by
  unfold own_S1 at hS; rcases hS with rfl | rfl | rfl | rfl | rfl | rfl <;> rfl
theorem own_eq_1_477 {x0 t0 t1 t2 t3 t4 t5 : Int32} (hS : own_S1 x0) : (own_v1_7 x0 t0 t1 t2 t3 t4 t5) = (own_v1_301 x0 t0 t1 t2 t3 t4 t5) := by
  unfold own_S1 at hS; rcases hS with rfl | rfl | rfl | rfl | rfl | rfl <;> rfl
theorem own_pd2 : parseMethodDescriptor "([I[II)Z" = some ⟨[(.array .int), (.array .int), .int], some .boolean⟩ := by decide +kernel
def own_v2_302 (x0 x1 t0 t1 t2 t3 t4 t5 : Int32) : Int32 := own_cat6 t0 t1 t2 t3 t4 t5 x0
def own_v2_303 (x0 x1 t0 t1 t2 t3 t4 t5 : Int32) : Int32 := own_up x1 0 (own_v2_302 x0 x1 t0 t1 t2 t3 t4 t5) t0
def own_v2_304 (x0 x1 t0 t1 t2 t3 t4 t5 : Int32) : Int32 := own_up x1 1 (own_v2_302 x0 x1 t0 t1 t2 t3 t4 t5) t1
def own_v2_305 (x0 x1 t0 t1 t2 t3 t4 t5 : Int32) : Int32 := own_up x1 2 (own_v2_302 x0 x1 t0 t1 t2 t3 t4 t5) t2
def own_v2_306 (x0 x1 t0 t1 t2 t3 t4 t5 : Int32) : Int32 := own_up x1 3 (own_v2_302 x0 x1 t0 t1 t2 t3 t4 t5) t3
def own_v2_307 (x0 x1 t0 t1 t2 t3 t4 t5 : Int32) : Int32 := own_up x1 4 (own_v2_302 x0 x1 t0 t1 t2 t3 t4 t5) t4
def own_v2_308 (x0 x1 t0 t1 t2 t3 t4 t5 : Int32) : Int32 := own_up x1 5 (own_v2_302 x0 x1 t0 t1 t2 t3 t4 t5) t5
def own_v2_309 (x0 x1 t0 t1 t2 t3 t4 t5 : Int32) : Int32 := own_cat6 t0 t1 t2 t3 t4 t5 x1
def own_v2_310 (x0 x1 t0 t1 t2 t3 t4 t5 : Int32) : Int32 := own_up x0 0 (own_v2_309 x0 x1 t0 t1 t2 t3 t4 t5) (own_v2_303 x0 x1 t0 t1 t2 t3 t4 t5)
def own_v2_311 (x0 x1 t0 t1 t2 t3 t4 t5 : Int32) : Int32 := own_up x0 1 (own_v2_309 x0 x1 t0 t1 t2 t3 t4 t5) (own_v2_304 x0 x1 t0 t1 t2 t3 t4 t5)
def own_v2_312 (x0 x1 t0 t1 t2 t3 t4 t5 : Int32) : Int32 := own_up x0 2 (own_v2_309 x0 x1 t0 t1 t2 t3 t4 t5) (own_v2_305 x0 x1 t0 t1 t2 t3 t4 t5)
def own_v2_313 (x0 x1 t0 t1 t2 t3 t4 t5 : Int32) : Int32 := own_up x0 3 (own_v2_309 x0 x1 t0 t1 t2 t3 t4 t5) (own_v2_306 x0 x1 t0 t1 t2 t3 t4 t5)
def own_v2_314 (x0 x1 t0 t1 t2 t3 t4 t5 : Int32) : Int32 := own_up x0 4 (own_v2_309 x0 x1 t0 t1 t2 t3 t4 t5) (own_v2_307 x0 x1 t0 t1 t2 t3 t4 t5)
def own_v2_315 (x0 x1 t0 t1 t2 t3 t4 t5 : Int32) : Int32 := own_up x0 5 (own_v2_309 x0 x1 t0 t1 t2 t3 t4 t5) (own_v2_308 x0 x1 t0 t1 t2 t3 t4 t5)
theorem own_eq_2_422 {x0 x1 t0 t1 t2 t3 t4 t5 : Int32} (hS : own_S2 x0 x1) : (own_v2_23 x0 x1 t0 t1 t2 t3 t4 t5) = (own_v2_310 x0 x1 t0 t1 t2 t3 t4 t5) := by
  unfold own_S2 at hS; rcases hS with ⟨rfl, rfl⟩ | ⟨rfl, rfl⟩ | ⟨rfl, rfl⟩ | ⟨rfl, rfl⟩ | ⟨rfl, rfl⟩ | ⟨rfl, rfl⟩ | ⟨rfl, rfl⟩ | ⟨rfl, rfl⟩ | ⟨rfl, rfl⟩ | ⟨rfl, rfl⟩ | ⟨rfl, rfl⟩ | ⟨rfl, rfl⟩ | ⟨rfl, rfl⟩ | ⟨rfl, rfl⟩ | ⟨rfl, rfl⟩ <;> rfl
theorem own_eq_2_433 {x0 x1 t0 t1 t2 t3 t4 t5 : Int32} (hS : own_S2 x0 x1) : (own_v2_24 x0 x1 t0 t1 t2 t3 t4 t5) = (own_v2_311 x0 x1 t0 t1 t2 t3 t4 t5) := by
  unfold own_S2 at hS; rcases hS with ⟨rfl, rfl⟩ | ⟨rfl, rfl⟩ | ⟨rfl, rfl⟩ | ⟨rfl, rfl⟩ | ⟨rfl, rfl⟩ | ⟨rfl, rfl⟩ | ⟨rfl, rfl⟩ | ⟨rfl, rfl⟩ | ⟨rfl, rfl⟩ | ⟨rfl, rfl⟩ | ⟨rfl, rfl⟩ | ⟨rfl, rfl⟩ | ⟨rfl, rfl⟩ | ⟨rfl, rfl⟩ | ⟨rfl, rfl⟩ <;> rfl
theorem own_eq_2_444 {x0 x1 t0 t1 t2 t3 t4 t5 : Int32} (hS : own_S2 x0 x1) : (own_v2_25 x0 x1 t0 t1 t2 t3 t4 t5) = (own_v2_312 x0 x1 t0 t1 t2 t3 t4 t5) := by
  unfold own_S2 at hS; rcases hS with ⟨rfl, rfl⟩ | ⟨rfl, rfl⟩ | ⟨rfl, rfl⟩ | ⟨rfl, rfl⟩ | ⟨rfl, rfl⟩ | ⟨rfl, rfl⟩ | ⟨rfl, rfl⟩ | ⟨rfl, rfl⟩ | ⟨rfl, rfl⟩ | ⟨rfl, rfl⟩ | ⟨rfl, rfl⟩ | ⟨rfl, rfl⟩ | ⟨rfl, rfl⟩ | ⟨rfl, rfl⟩ | ⟨rfl, rfl⟩ <;> rfl
theorem own_eq_2_455 {x0 x1 t0 t1 t2 t3 t4 t5 : Int32} (hS : own_S2 x0 x1) : (own_v2_26 x0 x1 t0 t1 t2 t3 t4 t5) = (own_v2_313 x0 x1 t0 t1 t2 t3 t4 t5) := by
  unfold own_S2 at hS; rcases hS with ⟨rfl, rfl⟩ | ⟨rfl, rfl⟩ | ⟨rfl, rfl⟩ | ⟨rfl, rfl⟩ | ⟨rfl, rfl⟩ | ⟨rfl, rfl⟩ | ⟨rfl, rfl⟩ | ⟨rfl, rfl⟩ | ⟨rfl, rfl⟩ | ⟨rfl, rfl⟩ | ⟨rfl, rfl⟩ | ⟨rfl, rfl⟩ | ⟨rfl, rfl⟩ | ⟨rfl, rfl⟩ | ⟨rfl, rfl⟩ <;> rfl
theorem own_eq_2_466 {x0 x1 t0 t1 t2 t3 t4 t5 : Int32} (hS : own_S2 x0 x1) : (own_v2_27 x0 x1 t0 t1 t2 t3 t4 t5) = (own_v2_314 x0 x1 t0 t1 t2 t3 t4 t5) := by
  unfold own_S2 at hS; rcases hS with ⟨rfl, rfl⟩ | ⟨rfl, rfl⟩ | ⟨rfl, rfl⟩ | ⟨rfl, rfl⟩ | ⟨rfl, rfl⟩ | ⟨rfl, rfl⟩ | ⟨rfl, rfl⟩ | ⟨rfl, rfl⟩ | ⟨rfl, rfl⟩ | ⟨rfl, rfl⟩ | ⟨rfl, rfl⟩ | ⟨rfl, rfl⟩ | ⟨rfl, rfl⟩ | ⟨rfl, rfl⟩ | ⟨rfl, rfl⟩ <;> rfl
theorem own_eq_2_477 {x0 x1 t0 t1 t2 t3 t4 t5 : Int32} (hS : own_S2 x0 x1) : (own_v2_28 x0 x1 t0 t1 t2 t3 t4 t5) = (own_v2_315 x0 x1 t0 t1 t2 t3 t4 t5) := by
  unfold own_S2 at hS; rcases hS with ⟨rfl, rfl⟩ | ⟨rfl, rfl⟩ | ⟨rfl, rfl⟩ | ⟨rfl, rfl⟩ | ⟨rfl, rfl⟩ | ⟨rfl, rfl⟩ | ⟨rfl, rfl⟩ | ⟨rfl, rfl⟩ | ⟨rfl, rfl⟩ | ⟨rfl, rfl⟩ | ⟨rfl, rfl⟩ | ⟨rfl, rfl⟩ | ⟨rfl, rfl⟩ | ⟨rfl, rfl⟩ | ⟨rfl, rfl⟩ <;> rfl
def own_v3_316 (x0 x1 x2 t0 t1 t2 t3 t4 t5 : Int32) : Int32 := own_cat6 t0 t1 t2 t3 t4 t5 x0
def own_v3_317 (x0 x1 x2 t0 t1 t2 t3 t4 t5 : Int32) : Int32 := own_up x1 0 (own_v3_316 x0 x1 x2 t0 t1 t2 t3 t4 t5) t0
def own_v3_318 (x0 x1 x2 t0 t1 t2 t3 t4 t5 : Int32) : Int32 := own_up x1 1 (own_v3_316 x0 x1 x2 t0 t1 t2 t3 t4 t5) t1
def own_v3_319 (x0 x1 x2 t0 t1 t2 t3 t4 t5 : Int32) : Int32 := own_up x1 2 (own_v3_316 x0 x1 x2 t0 t1 t2 t3 t4 t5) t2
def own_v3_320 (x0 x1 x2 t0 t1 t2 t3 t4 t5 : Int32) : Int32 := own_up x1 3 (own_v3_316 x0 x1 x2 t0 t1 t2 t3 t4 t5) t3
def own_v3_321 (x0 x1 x2 t0 t1 t2 t3 t4 t5 : Int32) : Int32 := own_up x1 4 (own_v3_316 x0 x1 x2 t0 t1 t2 t3 t4 t5) t4
def own_v3_322 (x0 x1 x2 t0 t1 t2 t3 t4 t5 : Int32) : Int32 := own_up x1 5 (own_v3_316 x0 x1 x2 t0 t1 t2 t3 t4 t5) t5
def own_v3_323 (x0 x1 x2 t0 t1 t2 t3 t4 t5 : Int32) : Int32 := own_cat6 t0 t1 t2 t3 t4 t5 x1
def own_v3_324 (x0 x1 x2 t0 t1 t2 t3 t4 t5 : Int32) : Int32 := own_up x2 0 (own_v3_323 x0 x1 x2 t0 t1 t2 t3 t4 t5) (own_v3_317 x0 x1 x2 t0 t1 t2 t3 t4 t5)
def own_v3_325 (x0 x1 x2 t0 t1 t2 t3 t4 t5 : Int32) : Int32 := own_up x2 1 (own_v3_323 x0 x1 x2 t0 t1 t2 t3 t4 t5) (own_v3_318 x0 x1 x2 t0 t1 t2 t3 t4 t5)
def own_v3_326 (x0 x1 x2 t0 t1 t2 t3 t4 t5 : Int32) : Int32 := own_up x2 2 (own_v3_323 x0 x1 x2 t0 t1 t2 t3 t4 t5) (own_v3_319 x0 x1 x2 t0 t1 t2 t3 t4 t5)
def own_v3_327 (x0 x1 x2 t0 t1 t2 t3 t4 t5 : Int32) : Int32 := own_up x2 3 (own_v3_323 x0 x1 x2 t0 t1 t2 t3 t4 t5) (own_v3_320 x0 x1 x2 t0 t1 t2 t3 t4 t5)
def own_v3_328 (x0 x1 x2 t0 t1 t2 t3 t4 t5 : Int32) : Int32 := own_up x2 4 (own_v3_323 x0 x1 x2 t0 t1 t2 t3 t4 t5) (own_v3_321 x0 x1 x2 t0 t1 t2 t3 t4 t5)
def own_v3_329 (x0 x1 x2 t0 t1 t2 t3 t4 t5 : Int32) : Int32 := own_up x2 5 (own_v3_323 x0 x1 x2 t0 t1 t2 t3 t4 t5) (own_v3_322 x0 x1 x2 t0 t1 t2 t3 t4 t5)
def own_v3_330 (x0 x1 x2 t0 t1 t2 t3 t4 t5 : Int32) : Int32 := own_cat6 t0 t1 t2 t3 t4 t5 x2
def own_v3_331 (x0 x1 x2 t0 t1 t2 t3 t4 t5 : Int32) : Int32 := own_up x0 0 (own_v3_330 x0 x1 x2 t0 t1 t2 t3 t4 t5) (own_v3_324 x0 x1 x2 t0 t1 t2 t3 t4 t5)
def own_v3_332 (x0 x1 x2 t0 t1 t2 t3 t4 t5 : Int32) : Int32 := own_up x0 1 (own_v3_330 x0 x1 x2 t0 t1 t2 t3 t4 t5) (own_v3_325 x0 x1 x2 t0 t1 t2 t3 t4 t5)
def own_v3_333 (x0 x1 x2 t0 t1 t2 t3 t4 t5 : Int32) : Int32 := own_up x0 2 (own_v3_330 x0 x1 x2 t0 t1 t2 t3 t4 t5) (own_v3_326 x0 x1 x2 t0 t1 t2 t3 t4 t5)
def own_v3_334 (x0 x1 x2 t0 t1 t2 t3 t4 t5 : Int32) : Int32 := own_up x0 3 (own_v3_330 x0 x1 x2 t0 t1 t2 t3 t4 t5) (own_v3_327 x0 x1 x2 t0 t1 t2 t3 t4 t5)
def own_v3_335 (x0 x1 x2 t0 t1 t2 t3 t4 t5 : Int32) : Int32 := own_up x0 4 (own_v3_330 x0 x1 x2 t0 t1 t2 t3 t4 t5) (own_v3_328 x0 x1 x2 t0 t1 t2 t3 t4 t5)
def own_v3_336 (x0 x1 x2 t0 t1 t2 t3 t4 t5 : Int32) : Int32 := own_up x0 5 (own_v3_330 x0 x1 x2 t0 t1 t2 t3 t4 t5) (own_v3_329 x0 x1 x2 t0 t1 t2 t3 t4 t5)
theorem own_eq_3_422 {x0 x1 x2 t0 t1 t2 t3 t4 t5 : Int32} (hS : own_S3 x0 x1 x2) : (own_v3_58 x0 x1 x2 t0 t1 t2 t3 t4 t5) = (own_v3_331 x0 x1 x2 t0 t1 t2 t3 t4 t5) := by
  unfold own_S3 at hS; rcases hS with ⟨rfl, rfl, rfl⟩ | ⟨rfl, rfl, rfl⟩ | ⟨rfl, rfl, rfl⟩ | ⟨rfl, rfl, rfl⟩ | ⟨rfl, rfl, rfl⟩ | ⟨rfl, rfl, rfl⟩ | ⟨rfl, rfl, rfl⟩ | ⟨rfl, rfl, rfl⟩ | ⟨rfl, rfl, rfl⟩ | ⟨rfl, rfl, rfl⟩ | ⟨rfl, rfl, rfl⟩ | ⟨rfl, rfl, rfl⟩ | ⟨rfl, rfl, rfl⟩ | ⟨rfl, rfl, rfl⟩ | ⟨rfl, rfl, rfl⟩ | ⟨rfl, rfl, rfl⟩ | ⟨rfl, rfl, rfl⟩ | ⟨rfl, rfl, rfl⟩ | ⟨rfl, rfl, rfl⟩ | ⟨rfl, rfl, rfl⟩ <;> rfl
theorem own_eq_3_433 {x0 x1 x2 t0 t1 t2 t3 t4 t5 : Int32} (hS : own_S3 x0 x1 x2) : (own_v3_59 x0 x1 x2 t0 t1 t2 t3 t4 t5) = (own_v3_332 x0 x1 x2 t0 t1 t2 t3 t4 t5) := by
  unfold own_S3 at hS; rcases hS with ⟨rfl, rfl, rfl⟩ | ⟨rfl, rfl, rfl⟩ | ⟨rfl, rfl, rfl⟩ | ⟨rfl, rfl, rfl⟩ | ⟨rfl, rfl, rfl⟩ | ⟨rfl, rfl, rfl⟩ | ⟨rfl, rfl, rfl⟩ | ⟨rfl, rfl, rfl⟩ | ⟨rfl, rfl, rfl⟩ | ⟨rfl, rfl, rfl⟩ | ⟨rfl, rfl, rfl⟩ | ⟨rfl, rfl, rfl⟩ | ⟨rfl, rfl, rfl⟩ | ⟨rfl, rfl, rfl⟩ | ⟨rfl, rfl, rfl⟩ | ⟨rfl, rfl, rfl⟩ | ⟨rfl, rfl, rfl⟩ | ⟨rfl, rfl, rfl⟩ | ⟨rfl, rfl, rfl⟩ | ⟨rfl, rfl, rfl⟩ <;> rfl
theorem own_eq_3_444 {x0 x1 x2 t0 t1 t2 t3 t4 t5 : Int32} (hS : own_S3 x0 x1 x2) : (own_v3_60 x0 x1 x2 t0 t1 t2 t3 t4 t5) = (own_v3_333 x0 x1 x2 t0 t1 t2 t3 t4 t5) := by
  unfold own_S3 at hS; rcases hS with ⟨rfl, rfl, rfl⟩ | ⟨rfl, rfl, rfl⟩ | ⟨rfl, rfl, rfl⟩ | ⟨rfl, rfl, rfl⟩ | ⟨rfl, rfl, rfl⟩ | ⟨rfl, rfl, rfl⟩ | ⟨rfl, rfl, rfl⟩ | ⟨rfl, rfl, rfl⟩ | ⟨rfl, rfl, rfl⟩ | ⟨rfl, rfl, rfl⟩ | ⟨rfl, rfl, rfl⟩ | ⟨rfl, rfl, rfl⟩ | ⟨rfl, rfl, rfl⟩ | ⟨rfl, rfl, rfl⟩ | ⟨rfl, rfl, rfl⟩ | ⟨rfl, rfl, rfl⟩ | ⟨rfl, rfl, rfl⟩ | ⟨rfl, rfl, rfl⟩ | ⟨rfl, rfl, rfl⟩ | ⟨rfl, rfl, rfl⟩ <;> rfl
theorem own_eq_3_455 {x0 x1 x2 t0 t1 t2 t3 t4 t5 : Int32} (hS : own_S3 x0 x1 x2) : (own_v3_61 x0 x1 x2 t0 t1 t2 t3 t4 t5) = (own_v3_334 x0 x1 x2 t0 t1 t2 t3 t4 t5) := by
  unfold own_S3 at hS; rcases hS with ⟨rfl, rfl, rfl⟩ | ⟨rfl, rfl, rfl⟩ | ⟨rfl, rfl, rfl⟩ | ⟨rfl, rfl, rfl⟩ | ⟨rfl, rfl, rfl⟩ | ⟨rfl, rfl, rfl⟩ | ⟨rfl, rfl, rfl⟩ | ⟨rfl, rfl, rfl⟩ | ⟨rfl, rfl, rfl⟩ | ⟨rfl, rfl, rfl⟩ | ⟨rfl, rfl, rfl⟩ | ⟨rfl, rfl, rfl⟩ | ⟨rfl, rfl, rfl⟩ | ⟨rfl, rfl, rfl⟩ | ⟨rfl, rfl, rfl⟩ | ⟨rfl, rfl, rfl⟩ | ⟨rfl, rfl, rfl⟩ | ⟨rfl, rfl, rfl⟩ | ⟨rfl, rfl, rfl⟩ | ⟨rfl, rfl, rfl⟩ <;> rfl
theorem own_eq_3_466 {x0 x1 x2 t0 t1 t2 t3 t4 t5 : Int32} (hS : own_S3 x0 x1 x2) : (own_v3_62 x0 x1 x2 t0 t1 t2 t3 t4 t5) = (own_v3_335 x0 x1 x2 t0 t1 t2 t3 t4 t5) := by
  unfold own_S3 at hS; rcases hS with ⟨rfl, rfl, rfl⟩ | ⟨rfl, rfl, rfl⟩ | ⟨rfl, rfl, rfl⟩ | ⟨rfl, rfl, rfl⟩ | ⟨rfl, rfl, rfl⟩ | ⟨rfl, rfl, rfl⟩ | ⟨rfl, rfl, rfl⟩ | ⟨rfl, rfl, rfl⟩ | ⟨rfl, rfl, rfl⟩ | ⟨rfl, rfl, rfl⟩ | ⟨rfl, rfl, rfl⟩ | ⟨rfl, rfl, rfl⟩ | ⟨rfl, rfl, rfl⟩ | ⟨rfl, rfl, rfl⟩ | ⟨rfl, rfl, rfl⟩ | ⟨rfl, rfl, rfl⟩ | ⟨rfl, rfl, rfl⟩ | ⟨rfl, rfl, rfl⟩ | ⟨rfl, rfl, rfl⟩ | ⟨rfl, rfl, rfl⟩ <;> rfl
theorem own_eq_3_477 {x0 x1 x2 t0 t1 t2 t3 t4 t5 : Int32} (hS : own_S3 x0 x1 x2) : (own_v3_63 x0 x1 x2 t0 t1 t2 t3 t4 t5) = (own_v3_336 x0 x1 x2 t0 t1 t2 t3 t4 t5) := by
  unfold own_S3 at hS; rcases hS with ⟨rfl, rfl, rfl⟩ | ⟨rfl, rfl, rfl⟩ | ⟨rfl, rfl, rfl⟩ | ⟨rfl, rfl, rfl⟩ | ⟨rfl, rfl, rfl⟩ | ⟨rfl, rfl, rfl⟩ | ⟨rfl, rfl, rfl⟩ | ⟨rfl, rfl, rfl⟩ | ⟨rfl, rfl, rfl⟩ | ⟨rfl, rfl, rfl⟩ | ⟨rfl, rfl, rfl⟩ | ⟨rfl, rfl, rfl⟩ | ⟨rfl, rfl, rfl⟩ | ⟨rfl, rfl, rfl⟩ | ⟨rfl, rfl, rfl⟩ | ⟨rfl, rfl, rfl⟩ | ⟨rfl, rfl, rfl⟩ | ⟨rfl, rfl, rfl⟩ | ⟨rfl, rfl, rfl⟩ | ⟨rfl, rfl, rfl⟩ <;> rfl
def own_v4_337 (x0 x1 x2 x3 t0 t1 t2 t3 t4 t5 : Int32) : Int32 := own_cat6 t0 t1 t2 t3 t4 t5 x0
def own_v4_338 (x0 x1 x2 x3 t0 t1 t2 t3 t4 t5 : Int32) : Int32 := own_up x1 0 (own_v4_337 x0 x1 x2 x3 t0 t1 t2 t3 t4 t5) t0
def own_v4_339 (x0 x1 x2 x3 t0 t1 t2 t3 t4 t5 : Int32) : Int32 := own_up x1 1 (own_v4_337 x0 x1 x2 x3 t0 t1 t2 t3 t4 t5) t1
def own_v4_340 (x0 x1 x2 x3 t0 t1 t2 t3 t4 t5 : Int32) : Int32 := own_up x1 2 (own_v4_337 x0 x1 x2 x3 t0 t1 t2 t3 t4 t5) t2
def own_v4_341 (x0 x1 x2 x3 t0 t1 t2 t3 t4 t5 : Int32) : Int32 := own_up x1 3 (own_v4_337 x0 x1 x2 x3 t0 t1 t2 t3 t4 t5) t3
def own_v4_342 (x0 x1 x2 x3 t0 t1 t2 t3 t4 t5 : Int32) : Int32 := own_up x1 4 (own_v4_337 x0 x1 x2 x3 t0 t1 t2 t3 t4 t5) t4
def own_v4_343 (x0 x1 x2 x3 t0 t1 t2 t3 t4 t5 : Int32) : Int32 := own_up x1 5 (own_v4_337 x0 x1 x2 x3 t0 t1 t2 t3 t4 t5) t5
def own_v4_344 (x0 x1 x2 x3 t0 t1 t2 t3 t4 t5 : Int32) : Int32 := own_cat6 t0 t1 t2 t3 t4 t5 x1
def own_v4_345 (x0 x1 x2 x3 t0 t1 t2 t3 t4 t5 : Int32) : Int32 := own_up x2 0 (own_v4_344 x0 x1 x2 x3 t0 t1 t2 t3 t4 t5) (own_v4_338 x0 x1 x2 x3 t0 t1 t2 t3 t4 t5)
def own_v4_346 (x0 x1 x2 x3 t0 t1 t2 t3 t4 t5 : Int32) : Int32 := own_up x2 1 (own_v4_344 x0 x1 x2 x3 t0 t1 t2 t3 t4 t5) (own_v4_339 x0 x1 x2 x3 t0 t1 t2 t3 t4 t5)
def own_v4_347 (x0 x1 x2 x3 t0 t1 t2 t3 t4 t5 : Int32) : Int32 := own_up x2 2 (own_v4_344 x0 x1 x2 x3 t0 t1 t2 t3 t4 t5) (own_v4_340 x0 x1 x2 x3 t0 t1 t2 t3 t4 t5)
def own_v4_348 (x0 x1 x2 x3 t0 t1 t2 t3 t4 t5 : Int32) : Int32 := own_up x2 3 (own_v4_344 x0 x1 x2 x3 t0 t1 t2 t3 t4 t5) (own_v4_341 x0 x1 x2 x3 t0 t1 t2 t3 t4 t5)
def own_v4_349 (x0 x1 x2 x3 t0 t1 t2 t3 t4 t5 : Int32) : Int32 := own_up x2 4 (own_v4_344 x0 x1 x2 x3 t0 t1 t2 t3 t4 t5) (own_v4_342 x0 x1 x2 x3 t0 t1 t2 t3 t4 t5)
def own_v4_350 (x0 x1 x2 x3 t0 t1 t2 t3 t4 t5 : Int32) : Int32 := own_up x2 5 (own_v4_344 x0 x1 x2 x3 t0 t1 t2 t3 t4 t5) (own_v4_343 x0 x1 x2 x3 t0 t1 t2 t3 t4 t5)
def own_v4_351 (x0 x1 x2 x3 t0 t1 t2 t3 t4 t5 : Int32) : Int32 := own_cat6 t0 t1 t2 t3 t4 t5 x2
def own_v4_352 (x0 x1 x2 x3 t0 t1 t2 t3 t4 t5 : Int32) : Int32 := own_up x3 0 (own_v4_351 x0 x1 x2 x3 t0 t1 t2 t3 t4 t5) (own_v4_345 x0 x1 x2 x3 t0 t1 t2 t3 t4 t5)
def own_v4_353 (x0 x1 x2 x3 t0 t1 t2 t3 t4 t5 : Int32) : Int32 := own_up x3 1 (own_v4_351 x0 x1 x2 x3 t0 t1 t2 t3 t4 t5) (own_v4_346 x0 x1 x2 x3 t0 t1 t2 t3 t4 t5)
def own_v4_354 (x0 x1 x2 x3 t0 t1 t2 t3 t4 t5 : Int32) : Int32 := own_up x3 2 (own_v4_351 x0 x1 x2 x3 t0 t1 t2 t3 t4 t5) (own_v4_347 x0 x1 x2 x3 t0 t1 t2 t3 t4 t5)
def own_v4_355 (x0 x1 x2 x3 t0 t1 t2 t3 t4 t5 : Int32) : Int32 := own_up x3 3 (own_v4_351 x0 x1 x2 x3 t0 t1 t2 t3 t4 t5) (own_v4_348 x0 x1 x2 x3 t0 t1 t2 t3 t4 t5)
def own_v4_356 (x0 x1 x2 x3 t0 t1 t2 t3 t4 t5 : Int32) : Int32 := own_up x3 4 (own_v4_351 x0 x1 x2 x3 t0 t1 t2 t3 t4 t5) (own_v4_349 x0 x1 x2 x3 t0 t1 t2 t3 t4 t5)
def own_v4_357 (x0 x1 x2 x3 t0 t1 t2 t3 t4 t5 : Int32) : Int32 := own_up x3 5 (own_v4_351 x0 x1 x2 x3 t0 t1 t2 t3 t4 t5) (own_v4_350 x0 x1 x2 x3 t0 t1 t2 t3 t4 t5)
def own_v4_358 (x0 x1 x2 x3 t0 t1 t2 t3 t4 t5 : Int32) : Int32 := own_cat6 t0 t1 t2 t3 t4 t5 x3
def own_v4_359 (x0 x1 x2 x3 t0 t1 t2 t3 t4 t5 : Int32) : Int32 := own_up x0 0 (own_v4_358 x0 x1 x2 x3 t0 t1 t2 t3 t4 t5) (own_v4_352 x0 x1 x2 x3 t0 t1 t2 t3 t4 t5)
def own_v4_360 (x0 x1 x2 x3 t0 t1 t2 t3 t4 t5 : Int32) : Int32 := own_up x0 1 (own_v4_358 x0 x1 x2 x3 t0 t1 t2 t3 t4 t5) (own_v4_353 x0 x1 x2 x3 t0 t1 t2 t3 t4 t5)
def own_v4_361 (x0 x1 x2 x3 t0 t1 t2 t3 t4 t5 : Int32) : Int32 := own_up x0 2 (own_v4_358 x0 x1 x2 x3 t0 t1 t2 t3 t4 t5) (own_v4_354 x0 x1 x2 x3 t0 t1 t2 t3 t4 t5)
def own_v4_362 (x0 x1 x2 x3 t0 t1 t2 t3 t4 t5 : Int32) : Int32 := own_up x0 3 (own_v4_358 x0 x1 x2 x3 t0 t1 t2 t3 t4 t5) (own_v4_355 x0 x1 x2 x3 t0 t1 t2 t3 t4 t5)
def own_v4_363 (x0 x1 x2 x3 t0 t1 t2 t3 t4 t5 : Int32) : Int32 := own_up x0 4 (own_v4_358 x0 x1 x2 x3 t0 t1 t2 t3 t4 t5) (own_v4_356 x0 x1 x2 x3 t0 t1 t2 t3 t4 t5)
def own_v4_364 (x0 x1 x2 x3 t0 t1 t2 t3 t4 t5 : Int32) : Int32 := own_up x0 5 (own_v4_358 x0 x1 x2 x3 t0 t1 t2 t3 t4 t5) (own_v4_357 x0 x1 x2 x3 t0 t1 t2 t3 t4 t5)
theorem own_eq_4_422 {x0 x1 x2 x3 t0 t1 t2 t3 t4 t5 : Int32} (hS : own_S4 x0 x1 x2 x3) : (own_v4_107 x0 x1 x2 x3 t0 t1 t2 t3 t4 t5) = (own_v4_359 x0 x1 x2 x3 t0 t1 t2 t3 t4 t5) := by
  unfold own_S4 at hS; rcases hS with ⟨rfl, rfl, rfl, rfl⟩ | ⟨rfl, rfl, rfl, rfl⟩ | ⟨rfl, rfl, rfl, rfl⟩ | ⟨rfl, rfl, rfl, rfl⟩ | ⟨rfl, rfl, rfl, rfl⟩ | ⟨rfl, rfl, rfl, rfl⟩ | ⟨rfl, rfl, rfl, rfl⟩ | ⟨rfl, rfl, rfl, rfl⟩ | ⟨rfl, rfl, rfl, rfl⟩ | ⟨rfl, rfl, rfl, rfl⟩ | ⟨rfl, rfl, rfl, rfl⟩ | ⟨rfl, rfl, rfl, rfl⟩ | ⟨rfl, rfl, rfl, rfl⟩ | ⟨rfl, rfl, rfl, rfl⟩ | ⟨rfl, rfl, rfl, rfl⟩ <;> rfl
theorem own_eq_4_433 {x0 x1 x2 x3 t0 t1 t2 t3 t4 t5 : Int32} (hS : own_S4 x0 x1 x2 x3) : (own_v4_108 x0 x1 x2 x3 t0 t1 t2 t3 t4 t5) = (own_v4_360 x0 x1 x2 x3 t0 t1 t2 t3 t4 t5) := by
  unfold own_S4 at hS; rcases hS with ⟨rfl, rfl, rfl, rfl⟩ | ⟨rfl, rfl, rfl, rfl⟩ | ⟨rfl, rfl, rfl, rfl⟩ | ⟨rfl, rfl, rfl, rfl⟩ | ⟨rfl, rfl, rfl, rfl⟩ | ⟨rfl, rfl, rfl, rfl⟩ | ⟨rfl, rfl, rfl, rfl⟩ | ⟨rfl, rfl, rfl, rfl⟩ | ⟨rfl, rfl, rfl, rfl⟩ | ⟨rfl, rfl, rfl, rfl⟩ | ⟨rfl, rfl, rfl, rfl⟩ | ⟨rfl, rfl, rfl, rfl⟩ | ⟨rfl, rfl, rfl, rfl⟩ | ⟨rfl, rfl, rfl, rfl⟩ | ⟨rfl, rfl, rfl, rfl⟩ <;> rfl
theorem own_eq_4_444 {x0 x1 x2 x3 t0 t1 t2 t3 t4 t5 : Int32} (hS : own_S4 x0 x1 x2 x3) : (own_v4_109 x0 x1 x2 x3 t0 t1 t2 t3 t4 t5) = (own_v4_361 x0 x1 x2 x3 t0 t1 t2 t3 t4 t5) := by
  unfold own_S4 at hS; rcases hS with ⟨rfl, rfl, rfl, rfl⟩ | ⟨rfl, rfl, rfl, rfl⟩ | ⟨rfl, rfl, rfl, rfl⟩ | ⟨rfl, rfl, rfl, rfl⟩ | ⟨rfl, rfl, rfl, rfl⟩ | ⟨rfl, rfl, rfl, rfl⟩ | ⟨rfl, rfl, rfl, rfl⟩ | ⟨rfl, rfl, rfl, rfl⟩ | ⟨rfl, rfl, rfl, rfl⟩ | ⟨rfl, rfl, rfl, rfl⟩ | ⟨rfl, rfl, rfl, rfl⟩ | ⟨rfl, rfl, rfl, rfl⟩ | ⟨rfl, rfl, rfl, rfl⟩ | ⟨rfl, rfl, rfl, rfl⟩ | ⟨rfl, rfl, rfl, rfl⟩ <;> rfl
theorem own_eq_4_455 {x0 x1 x2 x3 t0 t1 t2 t3 t4 t5 : Int32} (hS : own_S4 x0 x1 x2 x3) : (own_v4_110 x0 x1 x2 x3 t0 t1 t2 t3 t4 t5) = (own_v4_362 x0 x1 x2 x3 t0 t1 t2 t3 t4 t5) := by
  unfold own_S4 at hS; rcases hS with ⟨rfl, rfl, rfl, rfl⟩ | ⟨rfl, rfl, rfl, rfl⟩ | ⟨rfl, rfl, rfl, rfl⟩ | ⟨rfl, rfl, rfl, rfl⟩ | ⟨rfl, rfl, rfl, rfl⟩ | ⟨rfl, rfl, rfl, rfl⟩ | ⟨rfl, rfl, rfl, rfl⟩ | ⟨rfl, rfl, rfl, rfl⟩ | ⟨rfl, rfl, rfl, rfl⟩ | ⟨rfl, rfl, rfl, rfl⟩ | ⟨rfl, rfl, rfl, rfl⟩ | ⟨rfl, rfl, rfl, rfl⟩ | ⟨rfl, rfl, rfl, rfl⟩ | ⟨rfl, rfl, rfl, rfl⟩ | ⟨rfl, rfl, rfl, rfl⟩ <;> rfl
theorem own_eq_4_466 {x0 x1 x2 x3 t0 t1 t2 t3 t4 t5 : Int32} (hS : own_S4 x0 x1 x2 x3) : (own_v4_111 x0 x1 x2 x3 t0 t1 t2 t3 t4 t5) = (own_v4_363 x0 x1 x2 x3 t0 t1 t2 t3 t4 t5) := by
  unfold own_S4 at hS; rcases hS with ⟨rfl, rfl, rfl, rfl⟩ | ⟨rfl, rfl, rfl, rfl⟩ | ⟨rfl, rfl, rfl, rfl⟩ | ⟨rfl, rfl, rfl, rfl⟩ | ⟨rfl, rfl, rfl, rfl⟩ | ⟨rfl, rfl, rfl, rfl⟩ | ⟨rfl, rfl, rfl, rfl⟩ | ⟨rfl, rfl, rfl, rfl⟩ | ⟨rfl, rfl, rfl, rfl⟩ | ⟨rfl, rfl, rfl, rfl⟩ | ⟨rfl, rfl, rfl, rfl⟩ | ⟨rfl, rfl, rfl, rfl⟩ | ⟨rfl, rfl, rfl, rfl⟩ | ⟨rfl, rfl, rfl, rfl⟩ | ⟨rfl, rfl, rfl, rfl⟩ <;> rfl
theorem own_eq_4_477 {x0 x1 x2 x3 t0 t1 t2 t3 t4 t5 : Int32} (hS : own_S4 x0 x1 x2 x3) : (own_v4_112 x0 x1 x2 x3 t0 t1 t2 t3 t4 t5) = (own_v4_364 x0 x1 x2 x3 t0 t1 t2 t3 t4 t5) := by
  unfold own_S4 at hS; rcases hS with ⟨rfl, rfl, rfl, rfl⟩ | ⟨rfl, rfl, rfl, rfl⟩ | ⟨rfl, rfl, rfl, rfl⟩ | ⟨rfl, rfl, rfl, rfl⟩ | ⟨rfl, rfl, rfl, rfl⟩ | ⟨rfl, rfl, rfl, rfl⟩ | ⟨rfl, rfl, rfl, rfl⟩ | ⟨rfl, rfl, rfl, rfl⟩ | ⟨rfl, rfl, rfl, rfl⟩ | ⟨rfl, rfl, rfl, rfl⟩ | ⟨rfl, rfl, rfl, rfl⟩ | ⟨rfl, rfl, rfl, rfl⟩ | ⟨rfl, rfl, rfl, rfl⟩ | ⟨rfl, rfl, rfl, rfl⟩ | ⟨rfl, rfl, rfl, rfl⟩ <;> rfl
def own_v5_365 (x0 x1 x2 x3 x4 t0 t1 t2 t3 t4 t5 : Int32) : Int32 := own_cat6 t0 t1 t2 t3 t4 t5 x0
def own_v5_366 (x0 x1 x2 x3 x4 t0 t1 t2 t3 t4 t5 : Int32) : Int32 := own_up x1 0 (own_v5_365 x0 x1 x2 x3 x4 t0 t1 t2 t3 t4 t5) t0
def own_v5_367 (x0 x1 x2 x3 x4 t0 t1 t2 t3 t4 t5 : Int32) : Int32 := own_up x1 1 (own_v5_365 x0 x1 x2 x3 x4 t0 t1 t2 t3 t4 t5) t1
def own_v5_368 (x0 x1 x2 x3 x4 t0 t1 t2 t3 t4 t5 : Int32) : Int32 := own_up x1 2 (own_v5_365 x0 x1 x2 x3 x4 t0 t1 t2 t3 t4 t5) t2
def own_v5_369 (x0 x1 x2 x3 x4 t0 t1 t2 t3 t4 t5 : Int32) : Int32 := own_up x1 3 (own_v5_365 x0 x1 x2 x3 x4 t0 t1 t2 t3 t4 t5) t3
def own_v5_370 (x0 x1 x2 x3 x4 t0 t1 t2 t3 t4 t5 : Int32) : Int32 := own_up x1 4 (own_v5_365 x0 x1 x2 x3 x4 t0 t1 t2 t3 t4 t5) t4
def own_v5_371 (x0 x1 x2 x3 x4 t0 t1 t2 t3 t4 t5 : Int32) : Int32 := own_up x1 5 (own_v5_365 x0 x1 x2 x3 x4 t0 t1 t2 t3 t4 t5) t5
def own_v5_372 (x0 x1 x2 x3 x4 t0 t1 t2 t3 t4 t5 : Int32) : Int32 := own_cat6 t0 t1 t2 t3 t4 t5 x1
def own_v5_373 (x0 x1 x2 x3 x4 t0 t1 t2 t3 t4 t5 : Int32) : Int32 := own_up x2 0 (own_v5_372 x0 x1 x2 x3 x4 t0 t1 t2 t3 t4 t5) (own_v5_366 x0 x1 x2 x3 x4 t0 t1 t2 t3 t4 t5)
def own_v5_374 (x0 x1 x2 x3 x4 t0 t1 t2 t3 t4 t5 : Int32) : Int32 := own_up x2 1 (own_v5_372 x0 x1 x2 x3 x4 t0 t1 t2 t3 t4 t5) (own_v5_367 x0 x1 x2 x3 x4 t0 t1 t2 t3 t4 t5)
def own_v5_375 (x0 x1 x2 x3 x4 t0 t1 t2 t3 t4 t5 : Int32) : Int32 := own_up x2 2 (own_v5_372 x0 x1 x2 x3 x4 t0 t1 t2 t3 t4 t5) (own_v5_368 x0 x1 x2 x3 x4 t0 t1 t2 t3 t4 t5)
def own_v5_376 (x0 x1 x2 x3 x4 t0 t1 t2 t3 t4 t5 : Int32) : Int32 := own_up x2 3 (own_v5_372 x0 x1 x2 x3 x4 t0 t1 t2 t3 t4 t5) (own_v5_369 x0 x1 x2 x3 x4 t0 t1 t2 t3 t4 t5)
def own_v5_377 (x0 x1 x2 x3 x4 t0 t1 t2 t3 t4 t5 : Int32) : Int32 := own_up x2 4 (own_v5_372 x0 x1 x2 x3 x4 t0 t1 t2 t3 t4 t5) (own_v5_370 x0 x1 x2 x3 x4 t0 t1 t2 t3 t4 t5)
def own_v5_378 (x0 x1 x2 x3 x4 t0 t1 t2 t3 t4 t5 : Int32) : Int32 := own_up x2 5 (own_v5_372 x0 x1 x2 x3 x4 t0 t1 t2 t3 t4 t5) (own_v5_371 x0 x1 x2 x3 x4 t0 t1 t2 t3 t4 t5)
def own_v5_379 (x0 x1 x2 x3 x4 t0 t1 t2 t3 t4 t5 : Int32) : Int32 := own_cat6 t0 t1 t2 t3 t4 t5 x2
def own_v5_380 (x0 x1 x2 x3 x4 t0 t1 t2 t3 t4 t5 : Int32) : Int32 := own_up x3 0 (own_v5_379 x0 x1 x2 x3 x4 t0 t1 t2 t3 t4 t5) (own_v5_373 x0 x1 x2 x3 x4 t0 t1 t2 t3 t4 t5)
def own_v5_381 (x0 x1 x2 x3 x4 t0 t1 t2 t3 t4 t5 : Int32) : Int32 := own_up x3 1 (own_v5_379 x0 x1 x2 x3 x4 t0 t1 t2 t3 t4 t5) (own_v5_374 x0 x1 x2 x3 x4 t0 t1 t2 t3 t4 t5)
def own_v5_382 (x0 x1 x2 x3 x4 t0 t1 t2 t3 t4 t5 : Int32) : Int32 := own_up x3 2 (own_v5_379 x0 x1 x2 x3 x4 t0 t1 t2 t3 t4 t5) (own_v5_375 x0 x1 x2 x3 x4 t0 t1 t2 t3 t4 t5)
def own_v5_383 (x0 x1 x2 x3 x4 t0 t1 t2 t3 t4 t5 : Int32) : Int32 := own_up x3 3 (own_v5_379 x0 x1 x2 x3 x4 t0 t1 t2 t3 t4 t5) (own_v5_376 x0 x1 x2 x3 x4 t0 t1 t2 t3 t4 t5)
def own_v5_384 (x0 x1 x2 x3 x4 t0 t1 t2 t3 t4 t5 : Int32) : Int32 := own_up x3 4 (own_v5_379 x0 x1 x2 x3 x4 t0 t1 t2 t3 t4 t5) (own_v5_377 x0 x1 x2 x3 x4 t0 t1 t2 t3 t4 t5)
def own_v5_385 (x0 x1 x2 x3 x4 t0 t1 t2 t3 t4 t5 : Int32) : Int32 := own_up x3 5 (own_v5_379 x0 x1 x2 x3 x4 t0 t1 t2 t3 t4 t5) (own_v5_378 x0 x1 x2 x3 x4 t0 t1 t2 t3 t4 t5)
def own_v5_386 (x0 x1 x2 x3 x4 t0 t1 t2 t3 t4 t5 : Int32) : Int32 := own_cat6 t0 t1 t2 t3 t4 t5 x3
def own_v5_387 (x0 x1 x2 x3 x4 t0 t1 t2 t3 t4 t5 : Int32) : Int32 := own_up x4 0 (own_v5_386 x0 x1 x2 x3 x4 t0 t1 t2 t3 t4 t5) (own_v5_380 x0 x1 x2 x3 x4 t0 t1 t2 t3 t4 t5)
def own_v5_388 (x0 x1 x2 x3 x4 t0 t1 t2 t3 t4 t5 : Int32) : Int32 := own_up x4 1 (own_v5_386 x0 x1 x2 x3 x4 t0 t1 t2 t3 t4 t5) (own_v5_381 x0 x1 x2 x3 x4 t0 t1 t2 t3 t4 t5)
def own_v5_389 (x0 x1 x2 x3 x4 t0 t1 t2 t3 t4 t5 : Int32) : Int32 := own_up x4 2 (own_v5_386 x0 x1 x2 x3 x4 t0 t1 t2 t3 t4 t5) (own_v5_382 x0 x1 x2 x3 x4 t0 t1 t2 t3 t4 t5)
def own_v5_390 (x0 x1 x2 x3 x4 t0 t1 t2 t3 t4 t5 : Int32) : Int32 := own_up x4 3 (own_v5_386 x0 x1 x2 x3 x4 t0 t1 t2 t3 t4 t5) (own_v5_383 x0 x1 x2 x3 x4 t0 t1 t2 t3 t4 t5)
def own_v5_391 (x0 x1 x2 x3 x4 t0 t1 t2 t3 t4 t5 : Int32) : Int32 := own_up x4 4 (own_v5_386 x0 x1 x2 x3 x4 t0 t1 t2 t3 t4 t5) (own_v5_384 x0 x1 x2 x3 x4 t0 t1 t2 t3 t4 t5)
def own_v5_392 (x0 x1 x2 x3 x4 t0 t1 t2 t3 t4 t5 : Int32) : Int32 := own_up x4 5 (own_v5_386 x0 x1 x2 x3 x4 t0 t1 t2 t3 t4 t5) (own_v5_385 x0 x1 x2 x3 x4 t0 t1 t2 t3 t4 t5)
def own_v5_393 (x0 x1 x2 x3 x4 t0 t1 t2 t3 t4 t5 : Int32) : Int32 := own_cat6 t0 t1 t2 t3 t4 t5 x4
def own_v5_394 (x0 x1 x2 x3 x4 t0 t1 t2 t3 t4 t5 : Int32) : Int32 := own_up x0 0 (own_v5_393 x0 x1 x2 x3 x4 t0 t1 t2 t3 t4 t5) (own_v5_387 x0 x1 x2 x3 x4 t0 t1 t2 t3 t4 t5)
def own_v5_395 (x0 x1 x2 x3 x4 t0 t1 t2 t3 t4 t5 : Int32) : Int32 := own_up x0 1 (own_v5_393 x0 x1 x2 x3 x4 t0 t1 t2 t3 t4 t5) (own_v5_388 x0 x1 x2 x3 x4 t0 t1 t2 t3 t4 t5)
def own_v5_396 (x0 x1 x2 x3 x4 t0 t1 t2 t3 t4 t5 : Int32) : Int32 := own_up x0 2 (own_v5_393 x0 x1 x2 x3 x4 t0 t1 t2 t3 t4 t5) (own_v5_389 x0 x1 x2 x3 x4 t0 t1 t2 t3 t4 t5)
def own_v5_397 (x0 x1 x2 x3 x4 t0 t1 t2 t3 t4 t5 : Int32) : Int32 := own_up x0 3 (own_v5_393 x0 x1 x2 x3 x4 t0 t1 t2 t3 t4 t5) (own_v5_390 x0 x1 x2 x3 x4 t0 t1 t2 t3 t4 t5)
def own_v5_398 (x0 x1 x2 x3 x4 t0 t1 t2 t3 t4 t5 : Int32) : Int32 := own_up x0 4 (own_v5_393 x0 x1 x2 x3 x4 t0 t1 t2 t3 t4 t5) (own_v5_391 x0 x1 x2 x3 x4 t0 t1 t2 t3 t4 t5)
def own_v5_399 (x0 x1 x2 x3 x4 t0 t1 t2 t3 t4 t5 : Int32) : Int32 := own_up x0 5 (own_v5_393 x0 x1 x2 x3 x4 t0 t1 t2 t3 t4 t5) (own_v5_392 x0 x1 x2 x3 x4 t0 t1 t2 t3 t4 t5)
theorem own_eq_5_422 {x0 x1 x2 x3 x4 t0 t1 t2 t3 t4 t5 : Int32} (hS : own_S5 x0 x1 x2 x3 x4) : (own_v5_170 x0 x1 x2 x3 x4 t0 t1 t2 t3 t4 t5) = (own_v5_394 x0 x1 x2 x3 x4 t0 t1 t2 t3 t4 t5) := by
  unfold own_S5 at hS; rcases hS with ⟨rfl, rfl, rfl, rfl, rfl⟩ | ⟨rfl, rfl, rfl, rfl, rfl⟩ | ⟨rfl, rfl, rfl, rfl, rfl⟩ | ⟨rfl, rfl, rfl, rfl, rfl⟩ | ⟨rfl, rfl, rfl, rfl, rfl⟩ | ⟨rfl, rfl, rfl, rfl, rfl⟩ <;> rfl
theorem own_eq_5_433 {x0 x1 x2 x3 x4 t0 t1 t2 t3 t4 t5 : Int32} (hS : own_S5 x0 x1 x2 x3 x4) : (own_v5_171 x0 x1 x2 x3 x4 t0 t1 t2 t3 t4 t5) = (own_v5_395 x0 x1 x2 x3 x4 t0 t1 t2 t3 t4 t5) := by
  unfold own_S5 at hS; rcases hS with ⟨rfl, rfl, rfl, rfl, rfl⟩ | ⟨rfl, rfl, rfl, rfl, rfl⟩ | ⟨rfl, rfl, rfl, rfl, rfl⟩ | ⟨rfl, rfl, rfl, rfl, rfl⟩ | ⟨rfl, rfl, rfl, rfl, rfl⟩ | ⟨rfl, rfl, rfl, rfl, rfl⟩ <;> rfl
theorem own_eq_5_444 {x0 x1 x2 x3 x4 t0 t1 t2 t3 t4 t5 : Int32} (hS : own_S5 x0 x1 x2 x3 x4) : (own_v5_172 x0 x1 x2 x3 x4 t0 t1 t2 t3 t4 t5) = (own_v5_396 x0 x1 x2 x3 x4 t0 t1 t2 t3 t4 t5) := by
  unfold own_S5 at hS; rcases hS with ⟨rfl, rfl, rfl, rfl, rfl⟩ | ⟨rfl, rfl, rfl, rfl, rfl⟩ | ⟨rfl, rfl, rfl, rfl, rfl⟩ | ⟨rfl, rfl, rfl, rfl, rfl⟩ | ⟨rfl, rfl, rfl, rfl, rfl⟩ | ⟨rfl, rfl, rfl, rfl, rfl⟩ <;> rfl
theorem own_eq_5_455 {x0 x1 x2 x3 x4 t0 t1 t2 t3 t4 t5 : Int32} (hS : own_S5 x0 x1 x2 x3 x4) : (own_v5_173 x0 x1 x2 x3 x4 t0 t1 t2 t3 t4 t5) = (own_v5_397 x0 x1 x2 x3 x4 t0 t1 t2 t3 t4 t5) := by
  unfold own_S5 at hS; rcases hS with ⟨rfl, rfl, rfl, rfl, rfl⟩ | ⟨rfl, rfl, rfl, rfl, rfl⟩ | ⟨rfl, rfl, rfl, rfl, rfl⟩ | ⟨rfl, rfl, rfl, rfl, rfl⟩ | ⟨rfl, rfl, rfl, rfl, rfl⟩ | ⟨rfl, rfl, rfl, rfl, rfl⟩ <;> rfl
theorem own_eq_5_466 {x0 x1 x2 x3 x4 t0 t1 t2 t3 t4 t5 : Int32} (hS : own_S5 x0 x1 x2 x3 x4) : (own_v5_174 x0 x1 x2 x3 x4 t0 t1 t2 t3 t4 t5) = (own_v5_398 x0 x1 x2 x3 x4 t0 t1 t2 t3 t4 t5) := by
  unfold own_S5 at hS; rcases hS with ⟨rfl, rfl, rfl, rfl, rfl⟩ | ⟨rfl, rfl, rfl, rfl, rfl⟩ | ⟨rfl, rfl, rfl, rfl, rfl⟩ | ⟨rfl, rfl, rfl, rfl, rfl⟩ | ⟨rfl, rfl, rfl, rfl, rfl⟩ | ⟨rfl, rfl, rfl, rfl, rfl⟩ <;> rfl
theorem own_eq_5_477 {x0 x1 x2 x3 x4 t0 t1 t2 t3 t4 t5 : Int32} (hS : own_S5 x0 x1 x2 x3 x4) : (own_v5_175 x0 x1 x2 x3 x4 t0 t1 t2 t3 t4 t5) = (own_v5_399 x0 x1 x2 x3 x4 t0 t1 t2 t3 t4 t5) := by
  unfold own_S5 at hS; rcases hS with ⟨rfl, rfl, rfl, rfl, rfl⟩ | ⟨rfl, rfl, rfl, rfl, rfl⟩ | ⟨rfl, rfl, rfl, rfl, rfl⟩ | ⟨rfl, rfl, rfl, rfl, rfl⟩ | ⟨rfl, rfl, rfl, rfl, rfl⟩ | ⟨rfl, rfl, rfl, rfl, rfl⟩ <;> rfl
def own_v6_400 (x0 x1 x2 x3 x4 x5 t0 t1 t2 t3 t4 t5 : Int32) : Int32 := own_cat6 t0 t1 t2 t3 t4 t5 x0
def own_v6_401 (x0 x1 x2 x3 x4 x5 t0 t1 t2 t3 t4 t5 : Int32) : Int32 := own_up x1 0 (own_v6_400 x0 x1 x2 x3 x4 x5 t0 t1 t2 t3 t4 t5) t0
def own_v6_402 (x0 x1 x2 x3 x4 x5 t0 t1 t2 t3 t4 t5 : Int32) : Int32 := own_up x1 1 (own_v6_400 x0 x1 x2 x3 x4 x5 t0 t1 t2 t3 t4 t5) t1
def own_v6_403 (x0 x1 x2 x3 x4 x5 t0 t1 t2 t3 t4 t5 : Int32) : Int32 := own_up x1 2 (own_v6_400 x0 x1 x2 x3 x4 x5 t0 t1 t2 t3 t4 t5) t2
def own_v6_404 (x0 x1 x2 x3 x4 x5 t0 t1 t2 t3 t4 t5 : Int32) : Int32 := own_up x1 3 (own_v6_400 x0 x1 x2 x3 x4 x5 t0 t1 t2 t3 t4 t5) t3
def own_v6_405 (x0 x1 x2 x3 x4 x5 t0 t1 t2 t3 t4 t5 : Int32) : Int32 := own_up x1 4 (own_v6_400 x0 x1 x2 x3 x4 x5 t0 t1 t2 t3 t4 t5) t4
def own_v6_406 (x0 x1 x2 x3 x4 x5 t0 t1 t2 t3 t4 t5 : Int32) : Int32 := own_up x1 5 (own_v6_400 x0 x1 x2 x3 x4 x5 t0 t1 t2 t3 t4 t5) t5
def own_v6_407 (x0 x1 x2 x3 x4 x5 t0 t1 t2 t3 t4 t5 : Int32) : Int32 := own_cat6 t0 t1 t2 t3 t4 t5 x1
def own_v6_408 (x0 x1 x2 x3 x4 x5 t0 t1 t2 t3 t4 t5 : Int32) : Int32 := own_up x2 0 (own_v6_407 x0 x1 x2 x3 x4 x5 t0 t1 t2 t3 t4 t5) (own_v6_401 x0 x1 x2 x3 x4 x5 t0 t1 t2 t3 t4 t5)
def own_v6_409 (x0 x1 x2 x3 x4 x5 t0 t1 t2 t3 t4 t5 : Int32) : Int32 := own_up x2 1 (own_v6_407 x0 x1 x2 x3 x4 x5 t0 t1 t2 t3 t4 t5) (own_v6_402 x0 x1 x2 x3 x4 x5 t0 t1 t2 t3 t4 t5)
def own_v6_410 (x0 x1 x2 x3 x4 x5 t0 t1 t2 t3 t4 t5 : Int32) : Int32 := own_up x2 2 (own_v6_407 x0 x1 x2 x3 x4 x5 t0 t1 t2 t3 t4 t5) (own_v6_403 x0 x1 x2 x3 x4 x5 t0 t1 t2 t3 t4 t5)
def own_v6_411 (x0 x1 x2 x3 x4 x5 t0 t1 t2 t3 t4 t5 : Int32) : Int32 := own_up x2 3 (own_v6_407 x0 x1 x2 x3 x4 x5 t0 t1 t2 t3 t4 t5) (own_v6_404 x0 x1 x2 x3 x4 x5 t0 t1 t2 t3 t4 t5)
def own_v6_412 (x0 x1 x2 x3 x4 x5 t0 t1 t2 t3 t4 t5 : Int32) : Int32 := own_up x2 4 (own_v6_407 x0 x1 x2 x3 x4 x5 t0 t1 t2 t3 t4 t5) (own_v6_405 x0 x1 x2 x3 x4 x5 t0 t1 t2 t3 t4 t5)
def own_v6_413 (x0 x1 x2 x3 x4 x5 t0 t1 t2 t3 t4 t5 : Int32) : Int32 := own_up x2 5 (own_v6_407 x0 x1 x2 x3 x4 x5 t0 t1 t2 t3 t4 t5) (own_v6_406 x0 x1 x2 x3 x4 x5 t0 t1 t2 t3 t4 t5)
def own_v6_414 (x0 x1 x2 x3 x4 x5 t0 t1 t2 t3 t4 t5 : Int32) : Int32 := own_cat6 t0 t1 t2 t3 t4 t5 x2
def own_v6_415 (x0 x1 x2 x3 x4 x5 t0 t1 t2 t3 t4 t5 : Int32) : Int32 := own_up x3 0 (own_v6_414 x0 x1 x2 x3 x4 x5 t0 t1 t2 t3 t4 t5) (own_v6_408 x0 x1 x2 x3 x4 x5 t0 t1 t2 t3 t4 t5)
def own_v6_416 (x0 x1 x2 x3 x4 x5 t0 t1 t2 t3 t4 t5 : Int32) : Int32 := own_up x3 1 (own_v6_414 x0 x1 x2 x3 x4 x5 t0 t1 t2 t3 t4 t5) (own_v6_409 x0 x1 x2 x3 x4 x5 t0 t1 t2 t3 t4 t5)
def own_v6_417 (x0 x1 x2 x3 x4 x5 t0 t1 t2 t3 t4 t5 : Int32) : Int32 := own_up x3 2 (own_v6_414 x0 x1 x2 x3 x4 x5 t0 t1 t2 t3 t4 t5) (own_v6_410 x0 x1 x2 x3 x4 x5 t0 t1 t2 t3 t4 t5)
def own_v6_418 (x0 x1 x2 x3 x4 x5 t0 t1 t2 t3 t4 t5 : Int32) : Int32 := own_up x3 3 (own_v6_414 x0 x1 x2 x3 x4 x5 t0 t1 t2 t3 t4 t5) (own_v6_411 x0 x1 x2 x3 x4 x5 t0 t1 t2 t3 t4 t5)
def own_v6_419 (x0 x1 x2 x3 x4 x5 t0 t1 t2 t3 t4 t5 : Int32) : Int32 := own_up x3 4 (own_v6_414 x0 x1 x2 x3 x4 x5 t0 t1 t2 t3 t4 t5) (own_v6_412 x0 x1 x2 x3 x4 x5 t0 t1 t2 t3 t4 t5)
def own_v6_420 (x0 x1 x2 x3 x4 x5 t0 t1 t2 t3 t4 t5 : Int32) : Int32 := own_up x3 5 (own_v6_414 x0 x1 x2 x3 x4 x5 t0 t1 t2 t3 t4 t5) (own_v6_413 x0 x1 x2 x3 x4 x5 t0 t1 t2 t3 t4 t5)
def own_v6_421 (x0 x1 x2 x3 x4 x5 t0 t1 t2 t3 t4 t5 : Int32) : Int32 := own_cat6 t0 t1 t2 t3 t4 t5 x3
def own_v6_422 (x0 x1 x2 x3 x4 x5 t0 t1 t2 t3 t4 t5 : Int32) : Int32 := own_up x4 0 (own_v6_421 x0 x1 x2 x3 x4 x5 t0 t1 t2 t3 t4 t5) (own_v6_415 x0 x1 x2 x3 x4 x5 t0 t1 t2 t3 t4 t5)
def own_v6_423 (x0 x1 x2 x3 x4 x5 t0 t1 t2 t3 t4 t5 : Int32) : Int32 := own_up x4 1 (own_v6_421 x0 x1 x2 x3 x4 x5 t0 t1 t2 t3 t4 t5) (own_v6_416 x0 x1 x2 x3 x4 x5 t0 t1 t2 t3 t4 t5)
def own_v6_424 (x0 x1 x2 x3 x4 x5 t0 t1 t2 t3 t4 t5 : Int32) : Int32 := own_up x4 2 (own_v6_421 x0 x1 x2 x3 x4 x5 t0 t1 t2 t3 t4 t5) (own_v6_417 x0 x1 x2 x3 x4 x5 t0 t1 t2 t3 t4 t5)
def own_v6_425 (x0 x1 x2 x3 x4 x5 t0 t1 t2 t3 t4 t5 : Int32) : Int32 := own_up x4 3 (own_v6_421 x0 x1 x2 x3 x4 x5 t0 t1 t2 t3 t4 t5) (own_v6_418 x0 x1 x2 x3 x4 x5 t0 t1 t2 t3 t4 t5)
def own_v6_426 (x0 x1 x2 x3 x4 x5 t0 t1 t2 t3 t4 t5 : Int32) : Int32 := own_up x4 4 (own_v6_421 x0 x1 x2 x3 x4 x5 t0 t1 t2 t3 t4 t5) (own_v6_419 x0 x1 x2 x3 x4 x5 t0 t1 t2 t3 t4 t5)
def own_v6_427 (x0 x1 x2 x3 x4 x5 t0 t1 t2 t3 t4 t5 : Int32) : Int32 := own_up x4 5 (own_v6_421 x0 x1 x2 x3 x4 x5 t0 t1 t2 t3 t4 t5) (own_v6_420 x0 x1 x2 x3 x4 x5 t0 t1 t2 t3 t4 t5)
def own_v6_428 (x0 x1 x2 x3 x4 x5 t0 t1 t2 t3 t4 t5 : Int32) : Int32 := own_cat6 t0 t1 t2 t3 t4 t5 x4
def own_v6_429 (x0 x1 x2 x3 x4 x5 t0 t1 t2 t3 t4 t5 : Int32) : Int32 := own_up x5 0 (own_v6_428 x0 x1 x2 x3 x4 x5 t0 t1 t2 t3 t4 t5) (own_v6_422 x0 x1 x2 x3 x4 x5 t0 t1 t2 t3 t4 t5)
def own_v6_430 (x0 x1 x2 x3 x4 x5 t0 t1 t2 t3 t4 t5 : Int32) : Int32 := own_up x5 1 (own_v6_428 x0 x1 x2 x3 x4 x5 t0 t1 t2 t3 t4 t5) (own_v6_423 x0 x1 x2 x3 x4 x5 t0 t1 t2 t3 t4 t5)
def own_v6_431 (x0 x1 x2 x3 x4 x5 t0 t1 t2 t3 t4 t5 : Int32) : Int32 := own_up x5 2 (own_v6_428 x0 x1 x2 x3 x4 x5 t0 t1 t2 t3 t4 t5) (own_v6_424 x0 x1 x2 x3 x4 x5 t0 t1 t2 t3 t4 t5)
def own_v6_432 (x0 x1 x2 x3 x4 x5 t0 t1 t2 t3 t4 t5 : Int32) : Int32 := own_up x5 3 (own_v6_428 x0 x1 x2 x3 x4 x5 t0 t1 t2 t3 t4 t5) (own_v6_425 x0 x1 x2 x3 x4 x5 t0 t1 t2 t3 t4 t5)
def own_v6_433 (x0 x1 x2 x3 x4 x5 t0 t1 t2 t3 t4 t5 : Int32) : Int32 := own_up x5 4 (own_v6_428 x0 x1 x2 x3 x4 x5 t0 t1 t2 t3 t4 t5) (own_v6_426 x0 x1 x2 x3 x4 x5 t0 t1 t2 t3 t4 t5)
def own_v6_434 (x0 x1 x2 x3 x4 x5 t0 t1 t2 t3 t4 t5 : Int32) : Int32 := own_up x5 5 (own_v6_428 x0 x1 x2 x3 x4 x5 t0 t1 t2 t3 t4 t5) (own_v6_427 x0 x1 x2 x3 x4 x5 t0 t1 t2 t3 t4 t5)
def own_v6_435 (x0 x1 x2 x3 x4 x5 t0 t1 t2 t3 t4 t5 : Int32) : Int32 := own_cat6 t0 t1 t2 t3 t4 t5 x5
def own_v6_436 (x0 x1 x2 x3 x4 x5 t0 t1 t2 t3 t4 t5 : Int32) : Int32 := own_up x0 0 (own_v6_435 x0 x1 x2 x3 x4 x5 t0 t1 t2 t3 t4 t5) (own_v6_429 x0 x1 x2 x3 x4 x5 t0 t1 t2 t3 t4 t5)
def own_v6_437 (x0 x1 x2 x3 x4 x5 t0 t1 t2 t3 t4 t5 : Int32) : Int32 := own_up x0 1 (own_v6_435 x0 x1 x2 x3 x4 x5 t0 t1 t2 t3 t4 t5) (own_v6_430 x0 x1 x2 x3 x4 x5 t0 t1 t2 t3 t4 t5)
def own_v6_438 (x0 x1 x2 x3 x4 x5 t0 t1 t2 t3 t4 t5 : Int32) : Int32 := own_up x0 2 (own_v6_435 x0 x1 x2 x3 x4 x5 t0 t1 t2 t3 t4 t5) (own_v6_431 x0 x1 x2 x3 x4 x5 t0 t1 t2 t3 t4 t5)
def own_v6_439 (x0 x1 x2 x3 x4 x5 t0 t1 t2 t3 t4 t5 : Int32) : Int32 := own_up x0 3 (own_v6_435 x0 x1 x2 x3 x4 x5 t0 t1 t2 t3 t4 t5) (own_v6_432 x0 x1 x2 x3 x4 x5 t0 t1 t2 t3 t4 t5)
def own_v6_440 (x0 x1 x2 x3 x4 x5 t0 t1 t2 t3 t4 t5 : Int32) : Int32 := own_up x0 4 (own_v6_435 x0 x1 x2 x3 x4 x5 t0 t1 t2 t3 t4 t5) (own_v6_433 x0 x1 x2 x3 x4 x5 t0 t1 t2 t3 t4 t5)
def own_v6_441 (x0 x1 x2 x3 x4 x5 t0 t1 t2 t3 t4 t5 : Int32) : Int32 := own_up x0 5 (own_v6_435 x0 x1 x2 x3 x4 x5 t0 t1 t2 t3 t4 t5) (own_v6_434 x0 x1 x2 x3 x4 x5 t0 t1 t2 t3 t4 t5)
theorem own_eq_6_422 {x0 x1 x2 x3 x4 x5 t0 t1 t2 t3 t4 t5 : Int32} (hS : own_S6 x0 x1 x2 x3 x4 x5) : (own_v6_247 x0 x1 x2 x3 x4 x5 t0 t1 t2 t3 t4 t5) = (own_v6_436 x0 x1 x2 x3 x4 x5 t0 t1 t2 t3 t4 t5) := by
  unfold own_S6 at hS; rcases hS with ⟨rfl, rfl, rfl, rfl, rfl, rfl⟩ <;> rfl
theorem own_eq_6_433 {x0 x1 x2 x3 x4 x5 t0 t1 t2 t3 t4 t5 : Int32} (hS : own_S6 x0 x1 x2 x3 x4 x5) : (own_v6_248 x0 x1 x2 x3 x4 x5 t0 t1 t2 t3 t4 t5) = (own_v6_437 x0 x1 x2 x3 x4 x5 t0 t1 t2 t3 t4 t5) := by
  unfold own_S6 at hS; rcases hS with ⟨rfl, rfl, rfl, rfl, rfl, rfl⟩ <;> rfl
theorem own_eq_6_444 {x0 x1 x2 x3 x4 x5 t0 t1 t2 t3 t4 t5 : Int32} (hS : own_S6 x0 x1 x2 x3 x4 x5) : (own_v6_249 x0 x1 x2 x3 x4 x5 t0 t1 t2 t3 t4 t5) = (own_v6_438 x0 x1 x2 x3 x4 x5 t0 t1 t2 t3 t4 t5) := by
  unfold own_S6 at hS; rcases hS with ⟨rfl, rfl, rfl, rfl, rfl, rfl⟩ <;> rfl
theorem own_eq_6_455 {x0 x1 x2 x3 x4 x5 t0 t1 t2 t3 t4 t5 : Int32} (hS : own_S6 x0 x1 x2 x3 x4 x5) : (own_v6_250 x0 x1 x2 x3 x4 x5 t0 t1 t2 t3 t4 t5) = (own_v6_439 x0 x1 x2 x3 x4 x5 t0 t1 t2 t3 t4 t5) := by
  unfold own_S6 at hS; rcases hS with ⟨rfl, rfl, rfl, rfl, rfl, rfl⟩ <;> rfl
theorem own_eq_6_466 {x0 x1 x2 x3 x4 x5 t0 t1 t2 t3 t4 t5 : Int32} (hS : own_S6 x0 x1 x2 x3 x4 x5) : (own_v6_251 x0 x1 x2 x3 x4 x5 t0 t1 t2 t3 t4 t5) = (own_v6_440 x0 x1 x2 x3 x4 x5 t0 t1 t2 t3 t4 t5) := by
  unfold own_S6 at hS; rcases hS with ⟨rfl, rfl, rfl, rfl, rfl, rfl⟩ <;> rfl
theorem own_eq_6_477 {x0 x1 x2 x3 x4 x5 t0 t1 t2 t3 t4 t5 : Int32} (hS : own_S6 x0 x1 x2 x3 x4 x5) : (own_v6_252 x0 x1 x2 x3 x4 x5 t0 t1 t2 t3 t4 t5) = (own_v6_441 x0 x1 x2 x3 x4 x5 t0 t1 t2 t3 t4 t5) := by
  unfold own_S6 at hS; rcases hS with ⟨rfl, rfl, rfl, rfl, rfl, rfl⟩ <;> rfl
theorem own_ef0 (m : MethodId) (p1 : Int32) (q2 : Int64) (q3 : Int64) (q4 : Int64) : entryFrame m #[.int p1, .long q2, .long q3, .long q4] maxLocals = mkF m 0 #[.val (.int p1), .val (.long q2), .second, .val (.long q3), .second, .val (.long q4), .second, .unset, .unset, .unset, .unset, .unset, .unset, .unset, .unset] [] := by first | (simp [entryFrame, mkF, argsToLocals, Value.category, maxLocals]; done) | rfl
def own_Q0 (n0 : Nat) (v : Option Value) (h : Heap) (L : List Loc) : Prop := v = some (.int 1) ∧ Fr n0 L
set_option maxRecDepth 65536 in
set_option maxHeartbeats 40000000 in
theorem rm0 (l : Launch) (Z : State) (a0 : Array Value) (hw : ∀ d ∈ tables_1, d.before a0 Z = true) (ws : List Jvm.Cond) (p1 : Int32) (q2 : Int64) (q3 : Int64) (q4 : Int64) (h0 : Heap) (n0 : Nat) (Z0 : n0 ≤ h0.size) :
    MetFree l x (head1 (Jvm.Cond.code x code maxLocals ret :: ws) room_1) (fun a U => a = #[.int p1, .long q2, .long q3, .long q4] ∧ Z.Warmed39 U.vm ∧ U.heap = h0) (fun _ _ _ _ _ => True) (fun _ U o U' => ∃ v L, o = .returned v ∧ own_Q0 n0 v U'.heap L ∧ FrameEnd U o U' L 24 128) := by
  refine MetFree.of_bodySF (plainFor_of_name own_pn0) hisR ?_
  intro p e s m args below meth c s₁ Bd hml0 hP hK
  obtain ⟨rfl, hZ, hh⟩ := hP
  have hx := Bd.exec
  have hby := Bd.bytes
  have hml : c.maxLocals = 15 := hml0
  have hown : s.vm.findClass "com/example/tourloom/tourloom/GeneticOperatorsShiftRoundPinLaw" = some m.cls := findClass_of_methodNamed Bd.named
  have hnm := (name_of_methodNamed Bd.named Bd.method).1
  have hlk : meth.locks = false := BodyLoose.notSynchronized Bd
  have X0 : Stand p l e room_1 s m #[.int p1, .long q2, .long q3, .long q4] below meth c s₁ [] 0 0 := Stand.of_body Bd
  have e0 : s₁.heap = h0 := by rw [← hh, Bd.state]; rfl
  have N0 := Fr.nil n0
  show own_Go p e below (own_E s 24 128 (own_Q0 n0)) (s₁.setTop (entryFrame m #[.int p1, .long q2, .long q3, .long q4] maxLocals))
  rw [own_ef0]
  refine own_iloadN X0 hx (hb hby at_0) (q := 1) rfl rfl ?_
  refine own_ldc X0 hx hZ hown (hw _ (List.mem_of_getElem? (i := 0) rfl)) (hb hby at_1) (q := 3) rfl ?_
  refine own_iand X0 hx (hb hby at_3) (q := 4) rfl ?_
  refine own_bipush X0 hx (v := (63 : Int32)) (hb hby at_4) (q := 6) rfl rfl ?_
  refine own_irem X0 hx (hb hby at_6) (q := 7) rfl (by decide) ?_
  refine own_iconst X0 hx (v := (1 : Int32)) (hb hby at_7) (q := 8) rfl rfl ?_
  refine own_iadd X0 hx (hb hby at_8) (q := 9) rfl ?_
  refine own_istore (L' := #[.val (.int p1), .val (.long q2), .second, .val (.long q3), .second, .val (.long q4), .second, .val (.int (((p1 &&& (2147483647 : Int32)) % (63 : Int32)) + (1 : Int32))), .unset, .unset, .unset, .unset, .unset, .unset, .unset]) X0 hx (hb hby at_9) (q := 11) rfl rfl ?_
  refine own_bipush X0 hx (v := (6 : Int32)) (hb hby at_11) (q := 13) rfl rfl ?_
  refine own_newA X0 hx hZ (aty := .int) (ty := .int) (k := 6) (cap := 6) rfl (hw _ (List.mem_of_getElem? (i := 1) rfl)) e0 (by decide) (by decide) (by decide) (by decide) (by decide) (by decide) (hb hby at_13) (q := 15) rfl (fun T484 h487 a488 X485 e486 g489 E490 A491 => ?_)
  have Z492 : n0 ≤ a488 := by rw [g489]; exact Z0
  have Z493 : n0 ≤ h487.size := Nat.le_trans Z0 E490.1
  replace A491 : own_A Z h487 a488 .int [.int (0 : Int32), .int (0 : Int32), .int (0 : Int32), .int (0 : Int32), .int (0 : Int32), .int (0 : Int32)] := A491
  refine own_dup X485 hx (hb hby at_15) (q := 16) rfl rfl ?_
  refine own_iconst X485 hx (v := (0 : Int32)) (hb hby at_16) (q := 17) rfl rfl ?_
  refine own_lloadN X485 hx (hb hby at_17) (q := 18) rfl rfl ?_
  refine own_l2i X485 hx (hb hby at_18) (q := 19) rfl ?_
  refine own_iastore X485 hx hZ (i := 0) e486 A491 (by decide) (by decide) (Nat.le_of_ble_eq_true rfl) (hb hby at_19) (q := 20) rfl (fun T494 h497 X495 e496 W498 A499 => ?_)
  replace A499 : own_A Z h497 a488 .int [.int q2.toInt32, .int (0 : Int32), .int (0 : Int32), .int (0 : Int32), .int (0 : Int32), .int (0 : Int32)] := A499
  have Z500 : n0 ≤ h497.size := W498.size ▸ Z493
  have N501 := Fr.snoc X495 N0 Z492
  refine own_dup X495 hx (hb hby at_20) (q := 21) rfl rfl ?_
  refine own_iconst X495 hx (v := (1 : Int32)) (hb hby at_21) (q := 22) rfl rfl ?_
  refine own_lloadN X495 hx (hb hby at_22) (q := 23) rfl rfl ?_
  refine own_bipush X495 hx (v := (32 : Int32)) (hb hby at_23) (q := 25) rfl rfl ?_
  refine own_lushr X495 hx (hb hby at_25) (q := 26) rfl ?_
  refine own_l2i X495 hx (hb hby at_26) (q := 27) rfl ?_
  refine own_iastore X495 hx hZ (i := 1) e496 A499 (by decide) (by decide) (Nat.le_of_ble_eq_true rfl) (hb hby at_27) (q := 28) rfl (fun T502 h505 X503 e504 W506 A507 => ?_)
  replace A507 : own_A Z h505 a488 .int [.int q2.toInt32, .int ((XT.ushrL q2 (32 : Int32)).toInt32), .int (0 : Int32), .int (0 : Int32), .int (0 : Int32), .int (0 : Int32)] := A507
  have Z508 : n0 ≤ h505.size := W506.size ▸ Z500
  have N509 := Fr.snoc X503 N501 Z492
  refine own_dup X503 hx (hb hby at_28) (q := 29) rfl rfl ?_
  refine own_iconst X503 hx (v := (2 : Int32)) (hb hby at_29) (q := 30) rfl rfl ?_
  refine own_lloadN X503 hx (hb hby at_30) (q := 31) rfl rfl ?_
  refine own_l2i X503 hx (hb hby at_31) (q := 32) rfl ?_
  refine own_iastore X503 hx hZ (i := 2) e504 A507 (by decide) (by decide) (Nat.le_of_ble_eq_true rfl) (hb hby at_32) (q := 33) rfl (fun T510 h513 X511 e512 W514 A515 => ?_)
  replace A515 : own_A Z h513 a488 .int [.int q2.toInt32, .int ((XT.ushrL q2 (32 : Int32)).toInt32), .int q3.toInt32, .int (0 : Int32), .int (0 : Int32), .int (0 : Int32)] := A515
  have Z516 : n0 ≤ h513.size := W514.size ▸ Z508
  have N517 := Fr.snoc X511 N509 Z492
  refine own_dup X511 hx (hb hby at_33) (q := 34) rfl rfl ?_
  refine own_iconst X511 hx (v := (3 : Int32)) (hb hby at_34) (q := 35) rfl rfl ?_
  refine own_lloadN X511 hx (hb hby at_35) (q := 36) rfl rfl ?_
  refine own_bipush X511 hx (v := (32 : Int32)) (hb hby at_36) (q := 38) rfl rfl ?_
  refine own_lushr X511 hx (hb hby at_38) (q := 39) rfl ?_
  refine own_l2i X511 hx (hb hby at_39) (q := 40) rfl ?_
  refine own_iastore X511 hx hZ (i := 3) e512 A515 (by decide) (by decide) (Nat.le_of_ble_eq_true rfl) (hb hby at_40) (q := 41) rfl (fun T518 h521 X519 e520 W522 A523 => ?_)
  replace A523 : own_A Z h521 a488 .int [.int q2.toInt32, .int ((XT.ushrL q2 (32 : Int32)).toInt32), .int q3.toInt32, .int ((XT.ushrL q3 (32 : Int32)).toInt32), .int (0 : Int32), .int (0 : Int32)] := A523
  have Z524 : n0 ≤ h521.size := W522.size ▸ Z516
  have N525 := Fr.snoc X519 N517 Z492
  refine own_dup X519 hx (hb hby at_41) (q := 42) rfl rfl ?_
  refine own_iconst X519 hx (v := (4 : Int32)) (hb hby at_42) (q := 43) rfl rfl ?_
  refine own_lload X519 hx (hb hby at_43) (q := 45) rfl rfl ?_
  refine own_l2i X519 hx (hb hby at_45) (q := 46) rfl ?_
  refine own_iastore X519 hx hZ (i := 4) e520 A523 (by decide) (by decide) (Nat.le_of_ble_eq_true rfl) (hb hby at_46) (q := 47) rfl (fun T526 h529 X527 e528 W530 A531 => ?_)
  replace A531 : own_A Z h529 a488 .int [.int q2.toInt32, .int ((XT.ushrL q2 (32 : Int32)).toInt32), .int q3.toInt32, .int ((XT.ushrL q3 (32 : Int32)).toInt32), .int q4.toInt32, .int (0 : Int32)] := A531
  have Z532 : n0 ≤ h529.size := W530.size ▸ Z524
  have N533 := Fr.snoc X527 N525 Z492
  refine own_dup X527 hx (hb hby at_47) (q := 48) rfl rfl ?_
  refine own_iconst X527 hx (v := (5 : Int32)) (hb hby at_48) (q := 49) rfl rfl ?_
  refine own_lload X527 hx (hb hby at_49) (q := 51) rfl rfl ?_
  refine own_bipush X527 hx (v := (32 : Int32)) (hb hby at_51) (q := 53) rfl rfl ?_
  refine own_lushr X527 hx (hb hby at_53) (q := 54) rfl ?_
  refine own_l2i X527 hx (hb hby at_54) (q := 55) rfl ?_
  refine own_iastore X527 hx hZ (i := 5) e528 A531 (by decide) (by decide) (Nat.le_of_ble_eq_true rfl) (hb hby at_55) (q := 56) rfl (fun T534 h537 X535 e536 W538 A539 => ?_)
  replace A539 : own_A Z h537 a488 .int [.int q2.toInt32, .int ((XT.ushrL q2 (32 : Int32)).toInt32), .int q3.toInt32, .int ((XT.ushrL q3 (32 : Int32)).toInt32), .int q4.toInt32, .int ((XT.ushrL q4 (32 : Int32)).toInt32)] := A539
  have Z540 : n0 ≤ h537.size := W538.size ▸ Z532
  have N541 := Fr.snoc X535 N533 Z492
  refine own_astore (L' := #[.val (.int p1), .val (.long q2), .second, .val (.long q3), .second, .val (.long q4), .second, .val (.int (((p1 &&& (2147483647 : Int32)) % (63 : Int32)) + (1 : Int32))), .val (.ref a488), .unset, .unset, .unset, .unset, .unset, .unset]) X535 hx (hb hby at_56) (q := 58) rfl rfl rfl ?_
  refine own_bipush X535 hx (v := (6 : Int32)) (hb hby at_58) (q := 60) rfl rfl ?_
  refine own_newA X535 hx hZ (aty := .int) (ty := .int) (k := 6) (cap := 6) rfl (hw _ (List.mem_of_getElem? (i := 1) rfl)) e536 (by decide) (by decide) (by decide) (by decide) (by decide) (by decide) (hb hby at_60) (q := 62) rfl (fun T542 h545 a546 X543 e544 g547 E548 A549 => ?_)
  have A550 := A539.ext E548
  have ne551 : a488 ≠ a546 := by rw [g547]; exact Nat.ne_of_lt A539.lt
  have Z552 : n0 ≤ a546 := by rw [g547]; exact Z540
  have Z553 : n0 ≤ h545.size := Nat.le_trans Z540 E548.1
  replace A549 : own_A Z h545 a546 .int [.int (0 : Int32), .int (0 : Int32), .int (0 : Int32), .int (0 : Int32), .int (0 : Int32), .int (0 : Int32)] := A549
  refine own_dup X543 hx (hb hby at_62) (q := 63) rfl rfl ?_
  refine own_iconst X543 hx (v := (0 : Int32)) (hb hby at_63) (q := 64) rfl rfl ?_
  refine own_aload X543 hx (hb hby at_64) (q := 66) rfl rfl rfl ?_
  refine own_iconst X543 hx (v := (0 : Int32)) (hb hby at_66) (q := 67) rfl rfl ?_
  refine own_iaload X543 hx hZ (i := 0) (v := .int q2.toInt32) e544 A550 (by decide) (by decide) rfl (hb hby at_67) (q := 68) rfl ?_
  refine own_iastore X543 hx hZ (i := 0) e544 A549 (by decide) (by decide) (Nat.le_of_ble_eq_true rfl) (hb hby at_68) (q := 69) rfl (fun T554 h557 X555 e556 W558 A559 => ?_)
  replace A559 : own_A Z h557 a546 .int [.int q2.toInt32, .int (0 : Int32), .int (0 : Int32), .int (0 : Int32), .int (0 : Int32), .int (0 : Int32)] := A559
  have A560 := A550.other W558 ne551
  have Z561 : n0 ≤ h557.size := W558.size ▸ Z553
  have N562 := Fr.snoc X555 N541 Z552
  refine own_dup X555 hx (hb hby at_69) (q := 70) rfl rfl ?_
  refine own_iconst X555 hx (v := (1 : Int32)) (hb hby at_70) (q := 71) rfl rfl ?_
  refine own_aload X555 hx (hb hby at_71) (q := 73) rfl rfl rfl ?_
  refine own_iconst X555 hx (v := (1 : Int32)) (hb hby at_73) (q := 74) rfl rfl ?_
  refine own_iaload X555 hx hZ (i := 1) (v := .int ((XT.ushrL q2 (32 : Int32)).toInt32)) e556 A560 (by decide) (by decide) rfl (hb hby at_74) (q := 75) rfl ?_
  refine own_iastore X555 hx hZ (i := 1) e556 A559 (by decide) (by decide) (Nat.le_of_ble_eq_true rfl) (hb hby at_75) (q := 76) rfl (fun T563 h566 X564 e565 W567 A568 => ?_)
  replace A568 : own_A Z h566 a546 .int [.int q2.toInt32, .int ((XT.ushrL q2 (32 : Int32)).toInt32), .int (0 : Int32), .int (0 : Int32), .int (0 : Int32), .int (0 : Int32)] := A568
  have A569 := A560.other W567 ne551
  have Z570 : n0 ≤ h566.size := W567.size ▸ Z561
  have N571 := Fr.snoc X564 N562 Z552
  refine own_dup X564 hx (hb hby at_76) (q := 77) rfl rfl ?_
  refine own_iconst X564 hx (v := (2 : Int32)) (hb hby at_77) (q := 78) rfl rfl ?_
  refine own_aload X564 hx (hb hby at_78) (q := 80) rfl rfl rfl ?_
  refine own_iconst X564 hx (v := (2 : Int32)) (hb hby at_80) (q := 81) rfl rfl ?_
  refine own_iaload X564 hx hZ (i := 2) (v := .int q3.toInt32) e565 A569 (by decide) (by decide) rfl (hb hby at_81) (q := 82) rfl ?_
  refine own_iastore X564 hx hZ (i := 2) e565 A568 (by decide) (by decide) (Nat.le_of_ble_eq_true rfl) (hb hby at_82) (q := 83) rfl (fun T572 h575 X573 e574 W576 A577 => ?_)
  replace A577 : own_A Z h575 a546 .int [.int q2.toInt32, .int ((XT.ushrL q2 (32 : Int32)).toInt32), .int q3.toInt32, .int (0 : Int32), .int (0 : Int32), .int (0 : Int32)] := A577
  have A578 := A569.other W576 ne551
  have Z579 : n0 ≤ h575.size := W576.size ▸ Z570
  have N580 := Fr.snoc X573 N571 Z552
  refine own_dup X573 hx (hb hby at_83) (q := 84) rfl rfl ?_
  refine own_iconst X573 hx (v := (3 : Int32)) (hb hby at_84) (q := 85) rfl rfl ?_
  refine own_aload X573 hx (hb hby at_85) (q := 87) rfl rfl rfl ?_
  refine own_iconst X573 hx (v := (3 : Int32)) (hb hby at_87) (q := 88) rfl rfl ?_
  refine own_iaload X573 hx hZ (i := 3) (v := .int ((XT.ushrL q3 (32 : Int32)).toInt32)) e574 A578 (by decide) (by decide) rfl (hb hby at_88) (q := 89) rfl ?_
  refine own_iastore X573 hx hZ (i := 3) e574 A577 (by decide) (by decide) (Nat.le_of_ble_eq_true rfl) (hb hby at_89) (q := 90) rfl (fun T581 h584 X582 e583 W585 A586 => ?_)
  replace A586 : own_A Z h584 a546 .int [.int q2.toInt32, .int ((XT.ushrL q2 (32 : Int32)).toInt32), .int q3.toInt32, .int ((XT.ushrL q3 (32 : Int32)).toInt32), .int (0 : Int32), .int (0 : Int32)] := A586
  have A587 := A578.other W585 ne551
  have Z588 : n0 ≤ h584.size := W585.size ▸ Z579
  have N589 := Fr.snoc X582 N580 Z552
  refine own_dup X582 hx (hb hby at_90) (q := 91) rfl rfl ?_
  refine own_iconst X582 hx (v := (4 : Int32)) (hb hby at_91) (q := 92) rfl rfl ?_
  refine own_aload X582 hx (hb hby at_92) (q := 94) rfl rfl rfl ?_
  refine own_iconst X582 hx (v := (4 : Int32)) (hb hby at_94) (q := 95) rfl rfl ?_
  refine own_iaload X582 hx hZ (i := 4) (v := .int q4.toInt32) e583 A587 (by decide) (by decide) rfl (hb hby at_95) (q := 96) rfl ?_
  refine own_iastore X582 hx hZ (i := 4) e583 A586 (by decide) (by decide) (Nat.le_of_ble_eq_true rfl) (hb hby at_96) (q := 97) rfl (fun T590 h593 X591 e592 W594 A595 => ?_)
  replace A595 : own_A Z h593 a546 .int [.int q2.toInt32, .int ((XT.ushrL q2 (32 : Int32)).toInt32), .int q3.toInt32, .int ((XT.ushrL q3 (32 : Int32)).toInt32), .int q4.toInt32, .int (0 : Int32)] := A595
  have A596 := A587.other W594 ne551
  have Z597 : n0 ≤ h593.size := W594.size ▸ Z588
  have N598 := Fr.snoc X591 N589 Z552
  refine own_dup X591 hx (hb hby at_97) (q := 98) rfl rfl ?_
  refine own_iconst X591 hx (v := (5 : Int32)) (hb hby at_98) (q := 99) rfl rfl ?_
  refine own_aload X591 hx (hb hby at_99) (q := 101) rfl rfl rfl ?_
  refine own_iconst X591 hx (v := (5 : Int32)) (hb hby at_101) (q := 102) rfl rfl ?_
  refine own_iaload X591 hx hZ (i := 5) (v := .int ((XT.ushrL q4 (32 : Int32)).toInt32)) e592 A596 (by decide) (by decide) rfl (hb hby at_102) (q := 103) rfl ?_
  refine own_iastore X591 hx hZ (i := 5) e592 A595 (by decide) (by decide) (Nat.le_of_ble_eq_true rfl) (hb hby at_103) (q := 104) rfl (fun T599 h602 X600 e601 W603 A604 => ?_)
  replace A604 : own_A Z h602 a546 .int [.int q2.toInt32, .int ((XT.ushrL q2 (32 : Int32)).toInt32), .int q3.toInt32, .int ((XT.ushrL q3 (32 : Int32)).toInt32), .int q4.toInt32, .int ((XT.ushrL q4 (32 : Int32)).toInt32)] := A604
  have A605 := A596.other W603 ne551
  have Z606 : n0 ≤ h602.size := W603.size ▸ Z597
  have N607 := Fr.snoc X600 N598 Z552
  refine own_astore (L' := #[.val (.int p1), .val (.long q2), .second, .val (.long q3), .second, .val (.long q4), .second, .val (.int (((p1 &&& (2147483647 : Int32)) % (63 : Int32)) + (1 : Int32))), .val (.ref a488), .val (.ref a546), .unset, .unset, .unset, .unset, .unset]) X600 hx (hb hby at_104) (q := 106) rfl rfl rfl ?_
  refine own_bipush X600 hx (v := (6 : Int32)) (hb hby at_106) (q := 108) rfl rfl ?_
  refine own_newA X600 hx hZ (aty := .int) (ty := .int) (k := 6) (cap := 6) rfl (hw _ (List.mem_of_getElem? (i := 1) rfl)) e601 (by decide) (by decide) (by decide) (by decide) (by decide) (by decide) (hb hby at_108) (q := 110) rfl (fun T608 h611 a612 X609 e610 g613 E614 A615 => ?_)
  have A616 := A605.ext E614
  have A617 := A604.ext E614
  have ne618 : a488 ≠ a612 := by rw [g613]; exact Nat.ne_of_lt A605.lt
  have ne619 : a546 ≠ a612 := by rw [g613]; exact Nat.ne_of_lt A604.lt
  have Z620 : n0 ≤ a612 := by rw [g613]; exact Z606
  have Z621 : n0 ≤ h611.size := Nat.le_trans Z606 E614.1
  replace A615 : own_A Z h611 a612 .int [.int (0 : Int32), .int (0 : Int32), .int (0 : Int32), .int (0 : Int32), .int (0 : Int32), .int (0 : Int32)] := A615
  refine own_dup X609 hx (hb hby at_110) (q := 111) rfl rfl ?_
  refine own_iconst X609 hx (v := (0 : Int32)) (hb hby at_111) (q := 112) rfl rfl ?_
  refine own_aload X609 hx (hb hby at_112) (q := 114) rfl rfl rfl ?_
  refine own_iconst X609 hx (v := (0 : Int32)) (hb hby at_114) (q := 115) rfl rfl ?_
  refine own_iaload X609 hx hZ (i := 0) (v := .int q2.toInt32) e610 A616 (by decide) (by decide) rfl (hb hby at_115) (q := 116) rfl ?_
  refine own_iastore X609 hx hZ (i := 0) e610 A615 (by decide) (by decide) (Nat.le_of_ble_eq_true rfl) (hb hby at_116) (q := 117) rfl (fun T622 h625 X623 e624 W626 A627 => ?_)
  replace A627 : own_A Z h625 a612 .int [.int q2.toInt32, .int (0 : Int32), .int (0 : Int32), .int (0 : Int32), .int (0 : Int32), .int (0 : Int32)] := A627
  have A628 := A616.other W626 ne618
  have A629 := A617.other W626 ne619
  have Z630 : n0 ≤ h625.size := W626.size ▸ Z621
  have N631 := Fr.snoc X623 N607 Z620
  refine own_dup X623 hx (hb hby at_117) (q := 118) rfl rfl ?_
  refine own_iconst X623 hx (v := (1 : Int32)) (hb hby at_118) (q := 119) rfl rfl ?_
  refine own_aload X623 hx (hb hby at_119) (q := 121) rfl rfl rfl ?_
  refine own_iconst X623 hx (v := (1 : Int32)) (hb hby at_121) (q := 122) rfl rfl ?_
  refine own_iaload X623 hx hZ (i := 1) (v := .int ((XT.ushrL q2 (32 : Int32)).toInt32)) e624 A628 (by decide) (by decide) rfl (hb hby at_122) (q := 123) rfl ?_
  refine own_iastore X623 hx hZ (i := 1) e624 A627 (by decide) (by decide) (Nat.le_of_ble_eq_true rfl) (hb hby at_123) (q := 124) rfl (fun T632 h635 X633 e634 W636 A637 => ?_)
  replace A637 : own_A Z h635 a612 .int [.int q2.toInt32, .int ((XT.ushrL q2 (32 : Int32)).toInt32), .int (0 : Int32), .int (0 : Int32), .int (0 : Int32), .int (0 : Int32)] := A637
  have A638 := A628.other W636 ne618
  have A639 := A629.other W636 ne619
  have Z640 : n0 ≤ h635.size := W636.size ▸ Z630
  have N641 := Fr.snoc X633 N631 Z620
  refine own_dup X633 hx (hb hby at_124) (q := 125) rfl rfl ?_
  refine own_iconst X633 hx (v := (2 : Int32)) (hb hby at_125) (q := 126) rfl rfl ?_
  refine own_aload X633 hx (hb hby at_126) (q := 128) rfl rfl rfl ?_
  refine own_iconst X633 hx (v := (2 : Int32)) (hb hby at_128) (q := 129) rfl rfl ?_
  refine own_iaload X633 hx hZ (i := 2) (v := .int q3.toInt32) e634 A638 (by decide) (by decide) rfl (hb hby at_129) (q := 130) rfl ?_
  refine own_iastore X633 hx hZ (i := 2) e634 A637 (by decide) (by decide) (Nat.le_of_ble_eq_true rfl) (hb hby at_130) (q := 131) rfl (fun T642 h645 X643 e644 W646 A647 => ?_)
  replace A647 : own_A Z h645 a612 .int [.int q2.toInt32, .int ((XT.ushrL q2 (32 : Int32)).toInt32), .int q3.toInt32, .int (0 : Int32), .int (0 : Int32), .int (0 : Int32)] := A647
  have A648 := A638.other W646 ne618
  have A649 := A639.other W646 ne619
  have Z650 : n0 ≤ h645.size := W646.size ▸ Z640
  have N651 := Fr.snoc X643 N641 Z620
  refine own_dup X643 hx (hb hby at_131) (q := 132) rfl rfl ?_
  refine own_iconst X643 hx (v := (3 : Int32)) (hb hby at_132) (q := 133) rfl rfl ?_
  refine own_aload X643 hx (hb hby at_133) (q := 135) rfl rfl rfl ?_
  refine own_iconst X643 hx (v := (3 : Int32)) (hb hby at_135) (q := 136) rfl rfl ?_
  refine own_iaload X643 hx hZ (i := 3) (v := .int ((XT.ushrL q3 (32 : Int32)).toInt32)) e644 A648 (by decide) (by decide) rfl (hb hby at_136) (q := 137) rfl ?_
  refine own_iastore X643 hx hZ (i := 3) e644 A647 (by decide) (by decide) (Nat.le_of_ble_eq_true rfl) (hb hby at_137) (q := 138) rfl (fun T652 h655 X653 e654 W656 A657 => ?_)
  replace A657 : own_A Z h655 a612 .int [.int q2.toInt32, .int ((XT.ushrL q2 (32 : Int32)).toInt32), .int q3.toInt32, .int ((XT.ushrL q3 (32 : Int32)).toInt32), .int (0 : Int32), .int (0 : Int32)] := A657
  have A658 := A648.other W656 ne618
  have A659 := A649.other W656 ne619
  have Z660 : n0 ≤ h655.size := W656.size ▸ Z650
  have N661 := Fr.snoc X653 N651 Z620
  refine own_dup X653 hx (hb hby at_138) (q := 139) rfl rfl ?_
  refine own_iconst X653 hx (v := (4 : Int32)) (hb hby at_139) (q := 140) rfl rfl ?_
  refine own_aload X653 hx (hb hby at_140) (q := 142) rfl rfl rfl ?_
  refine own_iconst X653 hx (v := (4 : Int32)) (hb hby at_142) (q := 143) rfl rfl ?_
  refine own_iaload X653 hx hZ (i := 4) (v := .int q4.toInt32) e654 A658 (by decide) (by decide) rfl (hb hby at_143) (q := 144) rfl ?_
  refine own_iastore X653 hx hZ (i := 4) e654 A657 (by decide) (by decide) (Nat.le_of_ble_eq_true rfl) (hb hby at_144) (q := 145) rfl (fun T662 h665 X663 e664 W666 A667 => ?_)
  replace A667 : own_A Z h665 a612 .int [.int q2.toInt32, .int ((XT.ushrL q2 (32 : Int32)).toInt32), .int q3.toInt32, .int ((XT.ushrL q3 (32 : Int32)).toInt32), .int q4.toInt32, .int (0 : Int32)] := A667
  have A668 := A658.other W666 ne618
  have A669 := A659.other W666 ne619
  have Z670 : n0 ≤ h665.size := W666.size ▸ Z660
  have N671 := Fr.snoc X663 N661 Z620
  refine own_dup X663 hx (hb hby at_145) (q := 146) rfl rfl ?_
  refine own_iconst X663 hx (v := (5 : Int32)) (hb hby at_146) (q := 147) rfl rfl ?_
  refine own_aload X663 hx (hb hby at_147) (q := 149) rfl rfl rfl ?_
  refine own_iconst X663 hx (v := (5 : Int32)) (hb hby at_149) (q := 150) rfl rfl ?_
  refine own_iaload X663 hx hZ (i := 5) (v := .int ((XT.ushrL q4 (32 : Int32)).toInt32)) e664 A668 (by decide) (by decide) rfl (hb hby at_150) (q := 151) rfl ?_
  refine own_iastore X663 hx hZ (i := 5) e664 A667 (by decide) (by decide) (Nat.le_of_ble_eq_true rfl) (hb hby at_151) (q := 152) rfl (fun T672 h675 X673 e674 W676 A677 => ?_)
  replace A677 : own_A Z h675 a612 .int [.int q2.toInt32, .int ((XT.ushrL q2 (32 : Int32)).toInt32), .int q3.toInt32, .int ((XT.ushrL q3 (32 : Int32)).toInt32), .int q4.toInt32, .int ((XT.ushrL q4 (32 : Int32)).toInt32)] := A677
  have A678 := A668.other W676 ne618
  have A679 := A669.other W676 ne619
  have Z680 : n0 ≤ h675.size := W676.size ▸ Z670
  have N681 := Fr.snoc X673 N671 Z620
  refine own_astore (L' := #[.val (.int p1), .val (.long q2), .second, .val (.long q3), .second, .val (.long q4), .second, .val (.int (((p1 &&& (2147483647 : Int32)) % (63 : Int32)) + (1 : Int32))), .val (.ref a488), .val (.ref a546), .val (.ref a612), .unset, .unset, .unset, .unset]) X673 hx (hb hby at_152) (q := 154) rfl rfl rfl ?_
  refine own_bipush X673 hx (v := (6 : Int32)) (hb hby at_154) (q := 156) rfl rfl ?_
  refine own_newA X673 hx hZ (aty := .int) (ty := .int) (k := 6) (cap := 6) rfl (hw _ (List.mem_of_getElem? (i := 1) rfl)) e674 (by decide) (by decide) (by decide) (by decide) (by decide) (by decide) (hb hby at_156) (q := 158) rfl (fun T682 h685 a686 X683 e684 g687 E688 A689 => ?_)
  have A690 := A678.ext E688
  have A691 := A679.ext E688
  have A692 := A677.ext E688
  have ne693 : a488 ≠ a686 := by rw [g687]; exact Nat.ne_of_lt A678.lt
  have ne694 : a546 ≠ a686 := by rw [g687]; exact Nat.ne_of_lt A679.lt
  have ne695 : a612 ≠ a686 := by rw [g687]; exact Nat.ne_of_lt A677.lt
  have Z696 : n0 ≤ a686 := by rw [g687]; exact Z680
  have Z697 : n0 ≤ h685.size := Nat.le_trans Z680 E688.1
  replace A689 : own_A Z h685 a686 .int [.int (0 : Int32), .int (0 : Int32), .int (0 : Int32), .int (0 : Int32), .int (0 : Int32), .int (0 : Int32)] := A689
  refine own_astore (L' := #[.val (.int p1), .val (.long q2), .second, .val (.long q3), .second, .val (.long q4), .second, .val (.int (((p1 &&& (2147483647 : Int32)) % (63 : Int32)) + (1 : Int32))), .val (.ref a488), .val (.ref a546), .val (.ref a612), .val (.ref a686), .unset, .unset, .unset]) X683 hx (hb hby at_158) (q := 160) rfl rfl rfl ?_
  refine own_iconst X683 hx (v := (0 : Int32)) (hb hby at_160) (q := 161) rfl rfl ?_
  refine own_istore (L' := #[.val (.int p1), .val (.long q2), .second, .val (.long q3), .second, .val (.long q4), .second, .val (.int (((p1 &&& (2147483647 : Int32)) % (63 : Int32)) + (1 : Int32))), .val (.ref a488), .val (.ref a546), .val (.ref a612), .val (.ref a686), .val (.int (0 : Int32)), .unset, .unset]) X683 hx (hb hby at_161) (q := 163) rfl rfl ?_
  have hM := own_mask p1
  have J1 : ∀ (x0 t0 t1 t2 t3 t4 t5 : Int32) (Tj : State) (hj : Heap) (lj : List Loc), Stand p l e room_1 s m #[.int p1, .long q2, .long q3, .long q4] below meth c Tj lj 4 24 → Tj.heap = hj → own_A Z hj a488 .int [.int t0, .int t1, .int t2, .int t3, .int t4, .int t5] → own_A Z hj a546 .int [.int t0, .int t1, .int t2, .int t3, .int t4, .int t5] → own_A Z hj a612 .int [.int t0, .int t1, .int t2, .int t3, .int t4, .int t5] → own_A Z hj a686 .int [.int x0, .int (0 : Int32), .int (0 : Int32), .int (0 : Int32), .int (0 : Int32), .int (0 : Int32)] → n0 ≤ hj.size → Fr n0 lj → own_S1 x0 → own_Go p e below (own_E s 24 128 (own_Q0 n0)) (Tj.setTop (mkF m 262 #[.val (.int p1), .val (.long q2), .second, .val (.long q3), .second, .val (.long q4), .second, .val (.int (((p1 &&& (2147483647 : Int32)) % (63 : Int32)) + (1 : Int32))), .val (.ref a488), .val (.ref a546), .val (.ref a612), .val (.ref a686), .val (.int (1 : Int32)), .unset, .unset] [])) := by
    intro x0 t0 t1 t2 t3 t4 t5 Tj hj lj Xj ej Aj0 Aj1 Aj2 Aj3 Zj Nj hS
    refine own_aload Xj hx (hb hby at_262) (q := 264) rfl rfl rfl ?_
    refine own_iload Xj hx (hb hby at_264) (q := 266) rfl rfl ?_
    refine own_callS Xj hx hZ hown (hw _ (List.mem_of_getElem? (i := 2) rfl)) (hw _ (List.mem_of_getElem? (i := 3) rfl)) (hw _ (List.mem_of_getElem? (i := 4) rfl)) (hw _ (List.mem_of_getElem? (i := 5) rfl)) (by decide) (rm1_1 l Z a0 hw [] a686 x0 hj n0 Zj Aj3 ) own_pd0 rfl ej (by rw [hml]; rfl) (argsL := [.ref a686, .int (1 : Int32)]) (st := []) rfl (W := 0) (Nat.le_of_eq rfl) (by decide) (by decide) (by decide) (by decide) (hb hby at_266) (q := 269) rfl (fun v704 T705 L706 X707 hQ708 => ?_)
    obtain ⟨a712, rfl, N709, K710, O713, A714⟩ := hQ708
    have A715 := Aj0.keep K710 nin0
    have A716 := Aj1.keep K710 nin0
    have A717 := Aj2.keep K710 nin0
    have A718 := Aj3.keep K710 nin0
    have Z719 : n0 ≤ T705.heap.size := Nat.le_trans Zj K710.1
    have N711 := Fr.app Nj N709
    have ne720 : a488 ≠ a712 := Nat.ne_of_lt (Nat.lt_of_lt_of_le Aj0.lt O713)
    have ne721 : a546 ≠ a712 := Nat.ne_of_lt (Nat.lt_of_lt_of_le Aj1.lt O713)
    have ne722 : a612 ≠ a712 := Nat.ne_of_lt (Nat.lt_of_lt_of_le Aj2.lt O713)
    have ne723 : a686 ≠ a712 := Nat.ne_of_lt (Nat.lt_of_lt_of_le Aj3.lt O713)
    have Z724 : n0 ≤ a712 := Nat.le_trans Zj O713
    show own_Go p e below (own_E s 24 128 (own_Q0 n0)) (T705.setTop (mkF m 269 #[.val (.int p1), .val (.long q2), .second, .val (.long q3), .second, .val (.long q4), .second, .val (.int (((p1 &&& (2147483647 : Int32)) % (63 : Int32)) + (1 : Int32))), .val (.ref a488), .val (.ref a546), .val (.ref a612), .val (.ref a686), .val (.int (1 : Int32)), .unset, .unset] [.ref a712]))
    refine own_astore (L' := #[.val (.int p1), .val (.long q2), .second, .val (.long q3), .second, .val (.long q4), .second, .val (.int (((p1 &&& (2147483647 : Int32)) % (63 : Int32)) + (1 : Int32))), .val (.ref a488), .val (.ref a546), .val (.ref a612), .val (.ref a686), .val (.int (1 : Int32)), .val (.ref a712), .unset]) X707 hx (hb hby at_269) (q := 271) rfl rfl rfl ?_
    refine own_iload X707 hx (hb hby at_271) (q := 273) rfl rfl ?_
    refine own_iconst X707 hx (v := (1 : Int32)) (hb hby at_273) (q := 274) rfl rfl ?_
    refine own_icmpP X707 hx (hb hby at_274) (cd := .lt) (x := (1 : Int32)) (y := (1 : Int32)) (pt := 294) (q := 277) (by decide) (by decide) rfl rfl (fun h => False.elim (((by decide) : ¬ ((1 : Int32) < (1 : Int32))) h)) (fun _ => ?_)
    refine own_aload X707 hx (hb hby at_277) (q := 279) rfl rfl rfl ?_
    refine own_aload X707 hx (hb hby at_279) (q := 281) rfl rfl rfl ?_
    refine own_iconst X707 hx (v := (1 : Int32)) (hb hby at_281) (q := 282) rfl rfl ?_
    refine own_iload X707 hx (hb hby at_282) (q := 284) rfl rfl ?_
    refine own_irem X707 hx (hb hby at_284) (q := 285) rfl (by decide) ?_
    rw [show ((1 : Int32) % (1 : Int32) : Int32) = (0 : Int32) from by decide]
    refine own_iaload X707 hx hZ (i := 0) (v := .int x0) rfl A718 (by decide) (by decide) rfl (hb hby at_285) (q := 286) rfl ?_
    refine own_aload X707 hx (hb hby at_286) (q := 288) rfl rfl rfl ?_
    refine own_aload X707 hx (hb hby at_288) (q := 290) rfl rfl rfl ?_
    refine own_iconst X707 hx (v := (0 : Int32)) (hb hby at_290) (q := 291) rfl rfl ?_
    refine own_iaload X707 hx hZ (i := 0) (v := .int x0) rfl A718 (by decide) (by decide) rfl (hb hby at_291) (q := 292) rfl ?_
    refine own_iaload X707 hx hZ (i := (x0).toNatClampNeg) (v := .int (own_v1_295 x0 t0 t1 t2 t3 t4 t5)) rfl A715 (own_nn6 (own_S1_0 hS)) rfl (own_cat6V (own_S1_0 hS)) (hb hby at_292) (q := 293) rfl ?_
    refine own_iastore X707 hx hZ (i := (x0).toNatClampNeg) rfl A717 (own_nn6 (own_S1_0 hS)) rfl (own_lt6 (own_S1_0 hS)) (hb hby at_293) (q := 294) rfl (fun T725 h728 X726 e727 W729 A730 => ?_)
    replace A730 : own_A Z h728 a612 .int [.int (own_v1_296 x0 t0 t1 t2 t3 t4 t5), .int (own_v1_297 x0 t0 t1 t2 t3 t4 t5), .int (own_v1_298 x0 t0 t1 t2 t3 t4 t5), .int (own_v1_299 x0 t0 t1 t2 t3 t4 t5), .int (own_v1_300 x0 t0 t1 t2 t3 t4 t5), .int (own_v1_301 x0 t0 t1 t2 t3 t4 t5)] := by rw [own_set6 (own_S1_0 hS)] at A730; exact A730
    have A731 := A715.other W729 ne618
    have A732 := A716.other W729 ne619
    have A733 := A718.other W729 (Ne.symm ne695)
    have A734 := A714.other W729 (Ne.symm ne722)
    have Z735 : n0 ≤ h728.size := W729.size ▸ Z719
    have N736 := Fr.snoc X726 N711 Z620
    refine own_iload X726 hx (hb hby at_294) (q := 296) rfl rfl ?_
    refine own_iconst X726 hx (v := (2 : Int32)) (hb hby at_296) (q := 297) rfl rfl ?_
    refine own_icmpP X726 hx (hb hby at_297) (cd := .lt) (x := (1 : Int32)) (y := (2 : Int32)) (pt := 317) (q := 300) (by decide) (by decide) rfl rfl (fun _ => ?_) (fun h => False.elim (h ((by decide) : (1 : Int32) < (2 : Int32))))
    refine own_iload X726 hx (hb hby at_317) (q := 319) rfl rfl ?_
    refine own_iconst X726 hx (v := (3 : Int32)) (hb hby at_319) (q := 320) rfl rfl ?_
    refine own_icmpP X726 hx (hb hby at_320) (cd := .lt) (x := (1 : Int32)) (y := (3 : Int32)) (pt := 340) (q := 323) (by decide) (by decide) rfl rfl (fun _ => ?_) (fun h => False.elim (h ((by decide) : (1 : Int32) < (3 : Int32))))
    refine own_iload X726 hx (hb hby at_340) (q := 342) rfl rfl ?_
    refine own_iconst X726 hx (v := (4 : Int32)) (hb hby at_342) (q := 343) rfl rfl ?_
    refine own_icmpP X726 hx (hb hby at_343) (cd := .lt) (x := (1 : Int32)) (y := (4 : Int32)) (pt := 363) (q := 346) (by decide) (by decide) rfl rfl (fun _ => ?_) (fun h => False.elim (h ((by decide) : (1 : Int32) < (4 : Int32))))
    refine own_iload X726 hx (hb hby at_363) (q := 365) rfl rfl ?_
    refine own_iconst X726 hx (v := (5 : Int32)) (hb hby at_365) (q := 366) rfl rfl ?_
    refine own_icmpP X726 hx (hb hby at_366) (cd := .lt) (x := (1 : Int32)) (y := (5 : Int32)) (pt := 386) (q := 369) (by decide) (by decide) rfl rfl (fun _ => ?_) (fun h => False.elim (h ((by decide) : (1 : Int32) < (5 : Int32))))
    refine own_iload X726 hx (hb hby at_386) (q := 388) rfl rfl ?_
    refine own_bipush X726 hx (v := (6 : Int32)) (hb hby at_388) (q := 390) rfl rfl ?_
    refine own_icmpP X726 hx (hb hby at_390) (cd := .lt) (x := (1 : Int32)) (y := (6 : Int32)) (pt := 407) (q := 393) (by decide) (by decide) rfl rfl (fun _ => ?_) (fun h => False.elim (h ((by decide) : (1 : Int32) < (6 : Int32))))
    refine own_aload X726 hx (hb hby at_407) (q := 409) rfl rfl rfl ?_
    refine own_aload X726 hx (hb hby at_409) (q := 411) rfl rfl rfl ?_
    refine own_callS X726 hx hZ hown (hw _ (List.mem_of_getElem? (i := 6) rfl)) (hw _ (List.mem_of_getElem? (i := 7) rfl)) (hw _ (List.mem_of_getElem? (i := 8) rfl)) (hw _ (List.mem_of_getElem? (i := 9) rfl)) (by decide) (rm2_1 l Z a0 hw [] a546 a712 t0 t1 t2 t3 t4 t5 x0 h728 n0 A732 A734 Z552 (Ne.symm ne721) hS) own_pd1 rfl e727 (by rw [hml]; rfl) (argsL := [.ref a546, .ref a712]) (st := []) rfl (W := 0) (Nat.le_of_eq rfl) (by decide) (by decide) (by decide) (by decide) (hb hby at_411) (q := 414) rfl (fun v743 T744 L745 X746 hQ747 => ?_)
    obtain ⟨rfl, N748, K749, A751, A752⟩ := hQ747
    have A753 := A731.keep K749 (ninS ne551 nin0)
    have A754 := A733.keep K749 (ninS (Ne.symm ne694) nin0)
    have A755 := A730.keep K749 (ninS (Ne.symm ne619) nin0)
    have Z756 : n0 ≤ T744.heap.size := Nat.le_trans Z735 K749.1
    have N750 := Fr.app N736 N748
    show own_Go p e below (own_E s 24 128 (own_Q0 n0)) (T744.setTop (mkF m 414 #[.val (.int p1), .val (.long q2), .second, .val (.long q3), .second, .val (.long q4), .second, .val (.int (((p1 &&& (2147483647 : Int32)) % (63 : Int32)) + (1 : Int32))), .val (.ref a488), .val (.ref a546), .val (.ref a612), .val (.ref a686), .val (.int (1 : Int32)), .val (.ref a712), .unset] []))
    refine own_aload X746 hx (hb hby at_414) (q := 416) rfl rfl rfl ?_
    refine own_iconst X746 hx (v := (0 : Int32)) (hb hby at_416) (q := 417) rfl rfl ?_
    refine own_iaload X746 hx hZ (i := 0) (v := .int (own_v1_2 x0 t0 t1 t2 t3 t4 t5)) rfl A751 (by decide) (by decide) rfl (hb hby at_417) (q := 418) rfl ?_
    refine own_aload X746 hx (hb hby at_418) (q := 420) rfl rfl rfl ?_
    refine own_iconst X746 hx (v := (0 : Int32)) (hb hby at_420) (q := 421) rfl rfl ?_
    refine own_iaload X746 hx hZ (i := 0) (v := .int (own_v1_296 x0 t0 t1 t2 t3 t4 t5)) rfl A755 (by decide) (by decide) rfl (hb hby at_421) (q := 422) rfl ?_
    refine own_icmpM X746 hx (hb hby at_422) (cd := .ne) (x := own_v1_2 x0 t0 t1 t2 t3 t4 t5) (y := own_v1_296 x0 t0 t1 t2 t3 t4 t5) (pt := 484) (q := 425) (by decide) (by decide) rfl rfl (fun h => False.elim (h ((own_eq_1_422 hS) : (own_v1_2 x0 t0 t1 t2 t3 t4 t5) = (own_v1_296 x0 t0 t1 t2 t3 t4 t5)))) (fun _ => ?_)
    refine own_aload X746 hx (hb hby at_425) (q := 427) rfl rfl rfl ?_
    refine own_iconst X746 hx (v := (1 : Int32)) (hb hby at_427) (q := 428) rfl rfl ?_
    refine own_iaload X746 hx hZ (i := 1) (v := .int (own_v1_3 x0 t0 t1 t2 t3 t4 t5)) rfl A751 (by decide) (by decide) rfl (hb hby at_428) (q := 429) rfl ?_
    refine own_aload X746 hx (hb hby at_429) (q := 431) rfl rfl rfl ?_
    refine own_iconst X746 hx (v := (1 : Int32)) (hb hby at_431) (q := 432) rfl rfl ?_
    refine own_iaload X746 hx hZ (i := 1) (v := .int (own_v1_297 x0 t0 t1 t2 t3 t4 t5)) rfl A755 (by decide) (by decide) rfl (hb hby at_432) (q := 433) rfl ?_
    refine own_icmpM X746 hx (hb hby at_433) (cd := .ne) (x := own_v1_3 x0 t0 t1 t2 t3 t4 t5) (y := own_v1_297 x0 t0 t1 t2 t3 t4 t5) (pt := 484) (q := 436) (by decide) (by decide) rfl rfl (fun h => False.elim (h ((own_eq_1_433 hS) : (own_v1_3 x0 t0 t1 t2 t3 t4 t5) = (own_v1_297 x0 t0 t1 t2 t3 t4 t5)))) (fun _ => ?_)
    refine own_aload X746 hx (hb hby at_436) (q := 438) rfl rfl rfl ?_
    refine own_iconst X746 hx (v := (2 : Int32)) (hb hby at_438) (q := 439) rfl rfl ?_
    refine own_iaload X746 hx hZ (i := 2) (v := .int (own_v1_4 x0 t0 t1 t2 t3 t4 t5)) rfl A751 (by decide) (by decide) rfl (hb hby at_439) (q := 440) rfl ?_
    refine own_aload X746 hx (hb hby at_440) (q := 442) rfl rfl rfl ?_
    refine own_iconst X746 hx (v := (2 : Int32)) (hb hby at_442) (q := 443) rfl rfl ?_
    refine own_iaload X746 hx hZ (i := 2) (v := .int (own_v1_298 x0 t0 t1 t2 t3 t4 t5)) rfl A755 (by decide) (by decide) rfl (hb hby at_443) (q := 444) rfl ?_
    refine own_icmpM X746 hx (hb hby at_444) (cd := .ne) (x := own_v1_4 x0 t0 t1 t2 t3 t4 t5) (y := own_v1_298 x0 t0 t1 t2 t3 t4 t5) (pt := 484) (q := 447) (by decide) (by decide) rfl rfl (fun h => False.elim (h ((own_eq_1_444 hS) : (own_v1_4 x0 t0 t1 t2 t3 t4 t5) = (own_v1_298 x0 t0 t1 t2 t3 t4 t5)))) (fun _ => ?_)
    refine own_aload X746 hx (hb hby at_447) (q := 449) rfl rfl rfl ?_
    refine own_iconst X746 hx (v := (3 : Int32)) (hb hby at_449) (q := 450) rfl rfl ?_
    refine own_iaload X746 hx hZ (i := 3) (v := .int (own_v1_5 x0 t0 t1 t2 t3 t4 t5)) rfl A751 (by decide) (by decide) rfl (hb hby at_450) (q := 451) rfl ?_
    refine own_aload X746 hx (hb hby at_451) (q := 453) rfl rfl rfl ?_
    refine own_iconst X746 hx (v := (3 : Int32)) (hb hby at_453) (q := 454) rfl rfl ?_
    refine own_iaload X746 hx hZ (i := 3) (v := .int (own_v1_299 x0 t0 t1 t2 t3 t4 t5)) rfl A755 (by decide) (by decide) rfl (hb hby at_454) (q := 455) rfl ?_
    refine own_icmpM X746 hx (hb hby at_455) (cd := .ne) (x := own_v1_5 x0 t0 t1 t2 t3 t4 t5) (y := own_v1_299 x0 t0 t1 t2 t3 t4 t5) (pt := 484) (q := 458) (by decide) (by decide) rfl rfl (fun h => False.elim (h ((own_eq_1_455 hS) : (own_v1_5 x0 t0 t1 t2 t3 t4 t5) = (own_v1_299 x0 t0 t1 t2 t3 t4 t5)))) (fun _ => ?_)
    refine own_aload X746 hx (hb hby at_458) (q := 460) rfl rfl rfl ?_
    refine own_iconst X746 hx (v := (4 : Int32)) (hb hby at_460) (q := 461) rfl rfl ?_
    refine own_iaload X746 hx hZ (i := 4) (v := .int (own_v1_6 x0 t0 t1 t2 t3 t4 t5)) rfl A751 (by decide) (by decide) rfl (hb hby at_461) (q := 462) rfl ?_
    refine own_aload X746 hx (hb hby at_462) (q := 464) rfl rfl rfl ?_
    refine own_iconst X746 hx (v := (4 : Int32)) (hb hby at_464) (q := 465) rfl rfl ?_
    refine own_iaload X746 hx hZ (i := 4) (v := .int (own_v1_300 x0 t0 t1 t2 t3 t4 t5)) rfl A755 (by decide) (by decide) rfl (hb hby at_465) (q := 466) rfl ?_
    refine own_icmpM X746 hx (hb hby at_466) (cd := .ne) (x := own_v1_6 x0 t0 t1 t2 t3 t4 t5) (y := own_v1_300 x0 t0 t1 t2 t3 t4 t5) (pt := 484) (q := 469) (by decide) (by decide) rfl rfl (fun h => False.elim (h ((own_eq_1_466 hS) : (own_v1_6 x0 t0 t1 t2 t3 t4 t5) = (own_v1_300 x0 t0 t1 t2 t3 t4 t5)))) (fun _ => ?_)
    refine own_aload X746 hx (hb hby at_469) (q := 471) rfl rfl rfl ?_
    refine own_iconst X746 hx (v := (5 : Int32)) (hb hby at_471) (q := 472) rfl rfl ?_
    refine own_iaload X746 hx hZ (i := 5) (v := .int (own_v1_7 x0 t0 t1 t2 t3 t4 t5)) rfl A751 (by decide) (by decide) rfl (hb hby at_472) (q := 473) rfl ?_
    refine own_aload X746 hx (hb hby at_473) (q := 475) rfl rfl rfl ?_
    refine own_iconst X746 hx (v := (5 : Int32)) (hb hby at_475) (q := 476) rfl rfl ?_
    refine own_iaload X746 hx hZ (i := 5) (v := .int (own_v1_301 x0 t0 t1 t2 t3 t4 t5)) rfl A755 (by decide) (by decide) rfl (hb hby at_476) (q := 477) rfl ?_
    refine own_icmpM X746 hx (hb hby at_477) (cd := .ne) (x := own_v1_7 x0 t0 t1 t2 t3 t4 t5) (y := own_v1_301 x0 t0 t1 t2 t3 t4 t5) (pt := 484) (q := 480) (by decide) (by decide) rfl rfl (fun h => False.elim (h ((own_eq_1_477 hS) : (own_v1_7 x0 t0 t1 t2 t3 t4 t5) = (own_v1_301 x0 t0 t1 t2 t3 t4 t5)))) (fun _ => ?_)
    refine own_iconst X746 hx (v := (1 : Int32)) (hb hby at_480) (q := 481) rfl rfl ?_
    refine own_goto X746 hx (hb hby at_481) (q := 485) (by decide) (by decide) ?_
    refine own_istore (L' := #[.val (.int p1), .val (.long q2), .second, .val (.long q3), .second, .val (.long q4), .second, .val (.int (((p1 &&& (2147483647 : Int32)) % (63 : Int32)) + (1 : Int32))), .val (.ref a488), .val (.ref a546), .val (.ref a612), .val (.ref a686), .val (.int (1 : Int32)), .val (.ref a712), .val (.int (1 : Int32))]) X746 hx (hb hby at_485) (q := 487) rfl rfl ?_
    refine own_iload X746 hx (hb hby at_487) (q := 489) rfl rfl ?_
    refine own_if0P X746 hx (hb hby at_489) (cd := .eq) (x := (1 : Int32)) (pt := 508) (q := 492) (by decide) (by decide) rfl rfl (fun h => False.elim (((by decide) : ¬ ((1 : Int32) = (0 : Int32))) h)) (fun _ => ?_)
    refine own_aload X746 hx (hb hby at_492) (q := 494) rfl rfl rfl ?_
    refine own_aload X746 hx (hb hby at_494) (q := 496) rfl rfl rfl ?_
    refine own_iload X746 hx (hb hby at_496) (q := 498) rfl rfl ?_
    refine own_callSP X746 hx hZ hown (hw _ (List.mem_of_getElem? (i := 10) rfl)) (hw _ (List.mem_of_getElem? (i := 11) rfl)) (hw _ (List.mem_of_getElem? (i := 4) rfl)) (hw _ (List.mem_of_getElem? (i := 12) rfl)) (by decide) (rm3_1 l Z a0 hw [] a712 a686 x0 T744.heap A752 A754) own_pd2 rfl rfl (by rw [hml]; rfl) (argsL := [.ref a712, .ref a686, .int (1 : Int32)]) (st := []) rfl (W := 0) (Nat.le_of_eq rfl) (by decide) (by decide) (by decide) (by decide) (hb hby at_498) (q := 501) rfl (fun T757 X758 e759 => ?_)
    rw [show (own_f3_1 x0 : Int32) = (1 : Int32) from rfl]
    refine own_if0P X758 hx (hb hby at_501) (cd := .eq) (x := (1 : Int32)) (pt := 508) (q := 504) (by decide) (by decide) rfl rfl (fun h => False.elim (((by decide) : ¬ ((1 : Int32) = (0 : Int32))) h)) (fun _ => ?_)
    refine own_iconst X758 hx (v := (1 : Int32)) (hb hby at_504) (q := 505) rfl rfl ?_
    refine own_goto X758 hx (hb hby at_505) (q := 509) (by decide) (by decide) ?_
    refine own_retN X758 hx hlk (t := .boolean) (by simp) Bd.returns (hb hby at_509) ?_ (by decide) (by decide)
    exact ⟨rfl, N750⟩
  have J2 : ∀ (x0 x1 t0 t1 t2 t3 t4 t5 : Int32) (Tj : State) (hj : Heap) (lj : List Loc), Stand p l e room_1 s m #[.int p1, .long q2, .long q3, .long q4] below meth c Tj lj 4 24 → Tj.heap = hj → own_A Z hj a488 .int [.int t0, .int t1, .int t2, .int t3, .int t4, .int t5] → own_A Z hj a546 .int [.int t0, .int t1, .int t2, .int t3, .int t4, .int t5] → own_A Z hj a612 .int [.int t0, .int t1, .int t2, .int t3, .int t4, .int t5] → own_A Z hj a686 .int [.int x0, .int x1, .int (0 : Int32), .int (0 : Int32), .int (0 : Int32), .int (0 : Int32)] → n0 ≤ hj.size → Fr n0 lj → own_S2 x0 x1 → own_Go p e below (own_E s 24 128 (own_Q0 n0)) (Tj.setTop (mkF m 262 #[.val (.int p1), .val (.long q2), .second, .val (.long q3), .second, .val (.long q4), .second, .val (.int (((p1 &&& (2147483647 : Int32)) % (63 : Int32)) + (1 : Int32))), .val (.ref a488), .val (.ref a546), .val (.ref a612), .val (.ref a686), .val (.int (2 : Int32)), .unset, .unset] [])) := by
    intro x0 x1 t0 t1 t2 t3 t4 t5 Tj hj lj Xj ej Aj0 Aj1 Aj2 Aj3 Zj Nj hS
    refine own_aload Xj hx (hb hby at_262) (q := 264) rfl rfl rfl ?_
    refine own_iload Xj hx (hb hby at_264) (q := 266) rfl rfl ?_
    refine own_callS Xj hx hZ hown (hw _ (List.mem_of_getElem? (i := 2) rfl)) (hw _ (List.mem_of_getElem? (i := 3) rfl)) (hw _ (List.mem_of_getElem? (i := 4) rfl)) (hw _ (List.mem_of_getElem? (i := 5) rfl)) (by decide) (rm1_2 l Z a0 hw [] a686 x0 x1 hj n0 Zj Aj3 ) own_pd0 rfl ej (by rw [hml]; rfl) (argsL := [.ref a686, .int (2 : Int32)]) (st := []) rfl (W := 0) (Nat.le_of_eq rfl) (by decide) (by decide) (by decide) (by decide) (hb hby at_266) (q := 269) rfl (fun v766 T767 L768 X769 hQ770 => ?_)
    obtain ⟨a774, rfl, N771, K772, O775, A776⟩ := hQ770
    have A777 := Aj0.keep K772 nin0
    have A778 := Aj1.keep K772 nin0
    have A779 := Aj2.keep K772 nin0
    have A780 := Aj3.keep K772 nin0
    have Z781 : n0 ≤ T767.heap.size := Nat.le_trans Zj K772.1
    have N773 := Fr.app Nj N771
    have ne782 : a488 ≠ a774 := Nat.ne_of_lt (Nat.lt_of_lt_of_le Aj0.lt O775)
    have ne783 : a546 ≠ a774 := Nat.ne_of_lt (Nat.lt_of_lt_of_le Aj1.lt O775)
    have ne784 : a612 ≠ a774 := Nat.ne_of_lt (Nat.lt_of_lt_of_le Aj2.lt O775)
    have ne785 : a686 ≠ a774 := Nat.ne_of_lt (Nat.lt_of_lt_of_le Aj3.lt O775)
    have Z786 : n0 ≤ a774 := Nat.le_trans Zj O775
    show own_Go p e below (own_E s 24 128 (own_Q0 n0)) (T767.setTop (mkF m 269 #[.val (.int p1), .val (.long q2), .second, .val (.long q3), .second, .val (.long q4), .second, .val (.int (((p1 &&& (2147483647 : Int32)) % (63 : Int32)) + (1 : Int32))), .val (.ref a488), .val (.ref a546), .val (.ref a612), .val (.ref a686), .val (.int (2 : Int32)), .unset, .unset] [.ref a774]))
    refine own_astore (L' := #[.val (.int p1), .val (.long q2), .second, .val (.long q3), .second, .val (.long q4), .second, .val (.int (((p1 &&& (2147483647 : Int32)) % (63 : Int32)) + (1 : Int32))), .val (.ref a488), .val (.ref a546), .val (.ref a612), .val (.ref a686), .val (.int (2 : Int32)), .val (.ref a774), .unset]) X769 hx (hb hby at_269) (q := 271) rfl rfl rfl ?_
    refine own_iload X769 hx (hb hby at_271) (q := 273) rfl rfl ?_
    refine own_iconst X769 hx (v := (1 : Int32)) (hb hby at_273) (q := 274) rfl rfl ?_
    refine own_icmpP X769 hx (hb hby at_274) (cd := .lt) (x := (2 : Int32)) (y := (1 : Int32)) (pt := 294) (q := 277) (by decide) (by decide) rfl rfl (fun h => False.elim (((by decide) : ¬ ((2 : Int32) < (1 : Int32))) h)) (fun _ => ?_)
    refine own_aload X769 hx (hb hby at_277) (q := 279) rfl rfl rfl ?_
    refine own_aload X769 hx (hb hby at_279) (q := 281) rfl rfl rfl ?_
    refine own_iconst X769 hx (v := (1 : Int32)) (hb hby at_281) (q := 282) rfl rfl ?_
    refine own_iload X769 hx (hb hby at_282) (q := 284) rfl rfl ?_
    refine own_irem X769 hx (hb hby at_284) (q := 285) rfl (by decide) ?_
    rw [show ((1 : Int32) % (2 : Int32) : Int32) = (1 : Int32) from by decide]
    refine own_iaload X769 hx hZ (i := 1) (v := .int x1) rfl A780 (by decide) (by decide) rfl (hb hby at_285) (q := 286) rfl ?_
    refine own_aload X769 hx (hb hby at_286) (q := 288) rfl rfl rfl ?_
    refine own_aload X769 hx (hb hby at_288) (q := 290) rfl rfl rfl ?_
    refine own_iconst X769 hx (v := (0 : Int32)) (hb hby at_290) (q := 291) rfl rfl ?_
    refine own_iaload X769 hx hZ (i := 0) (v := .int x0) rfl A780 (by decide) (by decide) rfl (hb hby at_291) (q := 292) rfl ?_
    refine own_iaload X769 hx hZ (i := (x0).toNatClampNeg) (v := .int (own_v2_302 x0 x1 t0 t1 t2 t3 t4 t5)) rfl A777 (own_nn6 (own_S2_0 hS)) rfl (own_cat6V (own_S2_0 hS)) (hb hby at_292) (q := 293) rfl ?_
    refine own_iastore X769 hx hZ (i := (x1).toNatClampNeg) rfl A779 (own_nn6 (own_S2_1 hS)) rfl (own_lt6 (own_S2_1 hS)) (hb hby at_293) (q := 294) rfl (fun T787 h790 X788 e789 W791 A792 => ?_)
    replace A792 : own_A Z h790 a612 .int [.int (own_v2_303 x0 x1 t0 t1 t2 t3 t4 t5), .int (own_v2_304 x0 x1 t0 t1 t2 t3 t4 t5), .int (own_v2_305 x0 x1 t0 t1 t2 t3 t4 t5), .int (own_v2_306 x0 x1 t0 t1 t2 t3 t4 t5), .int (own_v2_307 x0 x1 t0 t1 t2 t3 t4 t5), .int (own_v2_308 x0 x1 t0 t1 t2 t3 t4 t5)] := by rw [own_set6 (own_S2_1 hS)] at A792; exact A792
    have A793 := A777.other W791 ne618
    have A794 := A778.other W791 ne619
    have A795 := A780.other W791 (Ne.symm ne695)
    have A796 := A776.other W791 (Ne.symm ne784)
    have Z797 : n0 ≤ h790.size := W791.size ▸ Z781
    have N798 := Fr.snoc X788 N773 Z620
    refine own_iload X788 hx (hb hby at_294) (q := 296) rfl rfl ?_
    refine own_iconst X788 hx (v := (2 : Int32)) (hb hby at_296) (q := 297) rfl rfl ?_
    refine own_icmpP X788 hx (hb hby at_297) (cd := .lt) (x := (2 : Int32)) (y := (2 : Int32)) (pt := 317) (q := 300) (by decide) (by decide) rfl rfl (fun h => False.elim (((by decide) : ¬ ((2 : Int32) < (2 : Int32))) h)) (fun _ => ?_)
    refine own_aload X788 hx (hb hby at_300) (q := 302) rfl rfl rfl ?_
    refine own_aload X788 hx (hb hby at_302) (q := 304) rfl rfl rfl ?_
    refine own_iconst X788 hx (v := (2 : Int32)) (hb hby at_304) (q := 305) rfl rfl ?_
    refine own_iload X788 hx (hb hby at_305) (q := 307) rfl rfl ?_
    refine own_irem X788 hx (hb hby at_307) (q := 308) rfl (by decide) ?_
    rw [show ((2 : Int32) % (2 : Int32) : Int32) = (0 : Int32) from by decide]
    refine own_iaload X788 hx hZ (i := 0) (v := .int x0) e789 A795 (by decide) (by decide) rfl (hb hby at_308) (q := 309) rfl ?_
    refine own_aload X788 hx (hb hby at_309) (q := 311) rfl rfl rfl ?_
    refine own_aload X788 hx (hb hby at_311) (q := 313) rfl rfl rfl ?_
    refine own_iconst X788 hx (v := (1 : Int32)) (hb hby at_313) (q := 314) rfl rfl ?_
    refine own_iaload X788 hx hZ (i := 1) (v := .int x1) e789 A795 (by decide) (by decide) rfl (hb hby at_314) (q := 315) rfl ?_
    refine own_iaload X788 hx hZ (i := (x1).toNatClampNeg) (v := .int (own_v2_309 x0 x1 t0 t1 t2 t3 t4 t5)) e789 A793 (own_nn6 (own_S2_1 hS)) rfl (own_cat6V (own_S2_1 hS)) (hb hby at_315) (q := 316) rfl ?_
    refine own_iastore X788 hx hZ (i := (x0).toNatClampNeg) e789 A792 (own_nn6 (own_S2_0 hS)) rfl (own_lt6 (own_S2_0 hS)) (hb hby at_316) (q := 317) rfl (fun T799 h802 X800 e801 W803 A804 => ?_)
    replace A804 : own_A Z h802 a612 .int [.int (own_v2_310 x0 x1 t0 t1 t2 t3 t4 t5), .int (own_v2_311 x0 x1 t0 t1 t2 t3 t4 t5), .int (own_v2_312 x0 x1 t0 t1 t2 t3 t4 t5), .int (own_v2_313 x0 x1 t0 t1 t2 t3 t4 t5), .int (own_v2_314 x0 x1 t0 t1 t2 t3 t4 t5), .int (own_v2_315 x0 x1 t0 t1 t2 t3 t4 t5)] := by rw [own_set6 (own_S2_0 hS)] at A804; exact A804
    have A805 := A793.other W803 ne618
    have A806 := A794.other W803 ne619
    have A807 := A795.other W803 (Ne.symm ne695)
    have A808 := A796.other W803 (Ne.symm ne784)
    have Z809 : n0 ≤ h802.size := W803.size ▸ Z797
    have N810 := Fr.snoc X800 N798 Z620
    refine own_iload X800 hx (hb hby at_317) (q := 319) rfl rfl ?_
    refine own_iconst X800 hx (v := (3 : Int32)) (hb hby at_319) (q := 320) rfl rfl ?_
    refine own_icmpP X800 hx (hb hby at_320) (cd := .lt) (x := (2 : Int32)) (y := (3 : Int32)) (pt := 340) (q := 323) (by decide) (by decide) rfl rfl (fun _ => ?_) (fun h => False.elim (h ((by decide) : (2 : Int32) < (3 : Int32))))
    refine own_iload X800 hx (hb hby at_340) (q := 342) rfl rfl ?_
    refine own_iconst X800 hx (v := (4 : Int32)) (hb hby at_342) (q := 343) rfl rfl ?_
    refine own_icmpP X800 hx (hb hby at_343) (cd := .lt) (x := (2 : Int32)) (y := (4 : Int32)) (pt := 363) (q := 346) (by decide) (by decide) rfl rfl (fun _ => ?_) (fun h => False.elim (h ((by decide) : (2 : Int32) < (4 : Int32))))
    refine own_iload X800 hx (hb hby at_363) (q := 365) rfl rfl ?_
    refine own_iconst X800 hx (v := (5 : Int32)) (hb hby at_365) (q := 366) rfl rfl ?_
    refine own_icmpP X800 hx (hb hby at_366) (cd := .lt) (x := (2 : Int32)) (y := (5 : Int32)) (pt := 386) (q := 369) (by decide) (by decide) rfl rfl (fun _ => ?_) (fun h => False.elim (h ((by decide) : (2 : Int32) < (5 : Int32))))
    refine own_iload X800 hx (hb hby at_386) (q := 388) rfl rfl ?_
    refine own_bipush X800 hx (v := (6 : Int32)) (hb hby at_388) (q := 390) rfl rfl ?_
    refine own_icmpP X800 hx (hb hby at_390) (cd := .lt) (x := (2 : Int32)) (y := (6 : Int32)) (pt := 407) (q := 393) (by decide) (by decide) rfl rfl (fun _ => ?_) (fun h => False.elim (h ((by decide) : (2 : Int32) < (6 : Int32))))
    refine own_aload X800 hx (hb hby at_407) (q := 409) rfl rfl rfl ?_
    refine own_aload X800 hx (hb hby at_409) (q := 411) rfl rfl rfl ?_
    refine own_callS X800 hx hZ hown (hw _ (List.mem_of_getElem? (i := 6) rfl)) (hw _ (List.mem_of_getElem? (i := 7) rfl)) (hw _ (List.mem_of_getElem? (i := 8) rfl)) (hw _ (List.mem_of_getElem? (i := 9) rfl)) (by decide) (rm2_2 l Z a0 hw [] a546 a774 t0 t1 t2 t3 t4 t5 x0 x1 h802 n0 A806 A808 Z552 (Ne.symm ne783) hS) own_pd1 rfl e801 (by rw [hml]; rfl) (argsL := [.ref a546, .ref a774]) (st := []) rfl (W := 0) (Nat.le_of_eq rfl) (by decide) (by decide) (by decide) (by decide) (hb hby at_411) (q := 414) rfl (fun v817 T818 L819 X820 hQ821 => ?_)
    obtain ⟨rfl, N822, K823, A825, A826⟩ := hQ821
    have A827 := A805.keep K823 (ninS ne551 nin0)
    have A828 := A807.keep K823 (ninS (Ne.symm ne694) nin0)
    have A829 := A804.keep K823 (ninS (Ne.symm ne619) nin0)
    have Z830 : n0 ≤ T818.heap.size := Nat.le_trans Z809 K823.1
    have N824 := Fr.app N810 N822
    show own_Go p e below (own_E s 24 128 (own_Q0 n0)) (T818.setTop (mkF m 414 #[.val (.int p1), .val (.long q2), .second, .val (.long q3), .second, .val (.long q4), .second, .val (.int (((p1 &&& (2147483647 : Int32)) % (63 : Int32)) + (1 : Int32))), .val (.ref a488), .val (.ref a546), .val (.ref a612), .val (.ref a686), .val (.int (2 : Int32)), .val (.ref a774), .unset] []))
    refine own_aload X820 hx (hb hby at_414) (q := 416) rfl rfl rfl ?_
    refine own_iconst X820 hx (v := (0 : Int32)) (hb hby at_416) (q := 417) rfl rfl ?_
    refine own_iaload X820 hx hZ (i := 0) (v := .int (own_v2_23 x0 x1 t0 t1 t2 t3 t4 t5)) rfl A825 (by decide) (by decide) rfl (hb hby at_417) (q := 418) rfl ?_
    refine own_aload X820 hx (hb hby at_418) (q := 420) rfl rfl rfl ?_
    refine own_iconst X820 hx (v := (0 : Int32)) (hb hby at_420) (q := 421) rfl rfl ?_
    refine own_iaload X820 hx hZ (i := 0) (v := .int (own_v2_310 x0 x1 t0 t1 t2 t3 t4 t5)) rfl A829 (by decide) (by decide) rfl (hb hby at_421) (q := 422) rfl ?_
    refine own_icmpM X820 hx (hb hby at_422) (cd := .ne) (x := own_v2_23 x0 x1 t0 t1 t2 t3 t4 t5) (y := own_v2_310 x0 x1 t0 t1 t2 t3 t4 t5) (pt := 484) (q := 425) (by decide) (by decide) rfl rfl (fun h => False.elim (h ((own_eq_2_422 hS) : (own_v2_23 x0 x1 t0 t1 t2 t3 t4 t5) = (own_v2_310 x0 x1 t0 t1 t2 t3 t4 t5)))) (fun _ => ?_)
    refine own_aload X820 hx (hb hby at_425) (q := 427) rfl rfl rfl ?_
    refine own_iconst X820 hx (v := (1 : Int32)) (hb hby at_427) (q := 428) rfl rfl ?_
    refine own_iaload X820 hx hZ (i := 1) (v := .int (own_v2_24 x0 x1 t0 t1 t2 t3 t4 t5)) rfl A825 (by decide) (by decide) rfl (hb hby at_428) (q := 429) rfl ?_
    refine own_aload X820 hx (hb hby at_429) (q := 431) rfl rfl rfl ?_
    refine own_iconst X820 hx (v := (1 : Int32)) (hb hby at_431) (q := 432) rfl rfl ?_
    refine own_iaload X820 hx hZ (i := 1) (v := .int (own_v2_311 x0 x1 t0 t1 t2 t3 t4 t5)) rfl A829 (by decide) (by decide) rfl (hb hby at_432) (q := 433) rfl ?_
    refine own_icmpM X820 hx (hb hby at_433) (cd := .ne) (x := own_v2_24 x0 x1 t0 t1 t2 t3 t4 t5) (y := own_v2_311 x0 x1 t0 t1 t2 t3 t4 t5) (pt := 484) (q := 436) (by decide) (by decide) rfl rfl (fun h => False.elim (h ((own_eq_2_433 hS) : (own_v2_24 x0 x1 t0 t1 t2 t3 t4 t5) = (own_v2_311 x0 x1 t0 t1 t2 t3 t4 t5)))) (fun _ => ?_)
    refine own_aload X820 hx (hb hby at_436) (q := 438) rfl rfl rfl ?_
    refine own_iconst X820 hx (v := (2 : Int32)) (hb hby at_438) (q := 439) rfl rfl ?_
    refine own_iaload X820 hx hZ (i := 2) (v := .int (own_v2_25 x0 x1 t0 t1 t2 t3 t4 t5)) rfl A825 (by decide) (by decide) rfl (hb hby at_439) (q := 440) rfl ?_
    refine own_aload X820 hx (hb hby at_440) (q := 442) rfl rfl rfl ?_
    refine own_iconst X820 hx (v := (2 : Int32)) (hb hby at_442) (q := 443) rfl rfl ?_
    refine own_iaload X820 hx hZ (i := 2) (v := .int (own_v2_312 x0 x1 t0 t1 t2 t3 t4 t5)) rfl A829 (by decide) (by decide) rfl (hb hby at_443) (q := 444) rfl ?_
    refine own_icmpM X820 hx (hb hby at_444) (cd := .ne) (x := own_v2_25 x0 x1 t0 t1 t2 t3 t4 t5) (y := own_v2_312 x0 x1 t0 t1 t2 t3 t4 t5) (pt := 484) (q := 447) (by decide) (by decide) rfl rfl (fun h => False.elim (h ((own_eq_2_444 hS) : (own_v2_25 x0 x1 t0 t1 t2 t3 t4 t5) = (own_v2_312 x0 x1 t0 t1 t2 t3 t4 t5)))) (fun _ => ?_)
    refine own_aload X820 hx (hb hby at_447) (q := 449) rfl rfl rfl ?_
    refine own_iconst X820 hx (v := (3 : Int32)) (hb hby at_449) (q := 450) rfl rfl ?_
    refine own_iaload X820 hx hZ (i := 3) (v := .int (own_v2_26 x0 x1 t0 t1 t2 t3 t4 t5)) rfl A825 (by decide) (by decide) rfl (hb hby at_450) (q := 451) rfl ?_
    refine own_aload X820 hx (hb hby at_451) (q := 453) rfl rfl rfl ?_
    refine own_iconst X820 hx (v := (3 : Int32)) (hb hby at_453) (q := 454) rfl rfl ?_
    refine own_iaload X820 hx hZ (i := 3) (v := .int (own_v2_313 x0 x1 t0 t1 t2 t3 t4 t5)) rfl A829 (by decide) (by decide) rfl (hb hby at_454) (q := 455) rfl ?_
    refine own_icmpM X820 hx (hb hby at_455) (cd := .ne) (x := own_v2_26 x0 x1 t0 t1 t2 t3 t4 t5) (y := own_v2_313 x0 x1 t0 t1 t2 t3 t4 t5) (pt := 484) (q := 458) (by decide) (by decide) rfl rfl (fun h => False.elim (h ((own_eq_2_455 hS) : (own_v2_26 x0 x1 t0 t1 t2 t3 t4 t5) = (own_v2_313 x0 x1 t0 t1 t2 t3 t4 t5)))) (fun _ => ?_)
    refine own_aload X820 hx (hb hby at_458) (q := 460) rfl rfl rfl ?_
    refine own_iconst X820 hx (v := (4 : Int32)) (hb hby at_460) (q := 461) rfl rfl ?_
    refine own_iaload X820 hx hZ (i := 4) (v := .int (own_v2_27 x0 x1 t0 t1 t2 t3 t4 t5)) rfl A825 (by decide) (by decide) rfl (hb hby at_461) (q := 462) rfl ?_
    refine own_aload X820 hx (hb hby at_462) (q := 464) rfl rfl rfl ?_
    refine own_iconst X820 hx (v := (4 : Int32)) (hb hby at_464) (q := 465) rfl rfl ?_
    refine own_iaload X820 hx hZ (i := 4) (v := .int (own_v2_314 x0 x1 t0 t1 t2 t3 t4 t5)) rfl A829 (by decide) (by decide) rfl (hb hby at_465) (q := 466) rfl ?_
    refine own_icmpM X820 hx (hb hby at_466) (cd := .ne) (x := own_v2_27 x0 x1 t0 t1 t2 t3 t4 t5) (y := own_v2_314 x0 x1 t0 t1 t2 t3 t4 t5) (pt := 484) (q := 469) (by decide) (by decide) rfl rfl (fun h => False.elim (h ((own_eq_2_466 hS) : (own_v2_27 x0 x1 t0 t1 t2 t3 t4 t5) = (own_v2_314 x0 x1 t0 t1 t2 t3 t4 t5)))) (fun _ => ?_)
    refine own_aload X820 hx (hb hby at_469) (q := 471) rfl rfl rfl ?_
    refine own_iconst X820 hx (v := (5 : Int32)) (hb hby at_471) (q := 472) rfl rfl ?_
    refine own_iaload X820 hx hZ (i := 5) (v := .int (own_v2_28 x0 x1 t0 t1 t2 t3 t4 t5)) rfl A825 (by decide) (by decide) rfl (hb hby at_472) (q := 473) rfl ?_
    refine own_aload X820 hx (hb hby at_473) (q := 475) rfl rfl rfl ?_
    refine own_iconst X820 hx (v := (5 : Int32)) (hb hby at_475) (q := 476) rfl rfl ?_
    refine own_iaload X820 hx hZ (i := 5) (v := .int (own_v2_315 x0 x1 t0 t1 t2 t3 t4 t5)) rfl A829 (by decide) (by decide) rfl (hb hby at_476) (q := 477) rfl ?_
    refine own_icmpM X820 hx (hb hby at_477) (cd := .ne) (x := own_v2_28 x0 x1 t0 t1 t2 t3 t4 t5) (y := own_v2_315 x0 x1 t0 t1 t2 t3 t4 t5) (pt := 484) (q := 480) (by decide) (by decide) rfl rfl (fun h => False.elim (h ((own_eq_2_477 hS) : (own_v2_28 x0 x1 t0 t1 t2 t3 t4 t5) = (own_v2_315 x0 x1 t0 t1 t2 t3 t4 t5)))) (fun _ => ?_)
    refine own_iconst X820 hx (v := (1 : Int32)) (hb hby at_480) (q := 481) rfl rfl ?_
    refine own_goto X820 hx (hb hby at_481) (q := 485) (by decide) (by decide) ?_
    refine own_istore (L' := #[.val (.int p1), .val (.long q2), .second, .val (.long q3), .second, .val (.long q4), .second, .val (.int (((p1 &&& (2147483647 : Int32)) % (63 : Int32)) + (1 : Int32))), .val (.ref a488), .val (.ref a546), .val (.ref a612), .val (.ref a686), .val (.int (2 : Int32)), .val (.ref a774), .val (.int (1 : Int32))]) X820 hx (hb hby at_485) (q := 487) rfl rfl ?_
    refine own_iload X820 hx (hb hby at_487) (q := 489) rfl rfl ?_
    refine own_if0P X820 hx (hb hby at_489) (cd := .eq) (x := (1 : Int32)) (pt := 508) (q := 492) (by decide) (by decide) rfl rfl (fun h => False.elim (((by decide) : ¬ ((1 : Int32) = (0 : Int32))) h)) (fun _ => ?_)
    refine own_aload X820 hx (hb hby at_492) (q := 494) rfl rfl rfl ?_
    refine own_aload X820 hx (hb hby at_494) (q := 496) rfl rfl rfl ?_
    refine own_iload X820 hx (hb hby at_496) (q := 498) rfl rfl ?_
    refine own_callSP X820 hx hZ hown (hw _ (List.mem_of_getElem? (i := 10) rfl)) (hw _ (List.mem_of_getElem? (i := 11) rfl)) (hw _ (List.mem_of_getElem? (i := 4) rfl)) (hw _ (List.mem_of_getElem? (i := 12) rfl)) (by decide) (rm3_2 l Z a0 hw [] a774 a686 x0 x1 T818.heap A826 A828) own_pd2 rfl rfl (by rw [hml]; rfl) (argsL := [.ref a774, .ref a686, .int (2 : Int32)]) (st := []) rfl (W := 0) (Nat.le_of_eq rfl) (by decide) (by decide) (by decide) (by decide) (hb hby at_498) (q := 501) rfl (fun T831 X832 e833 => ?_)
    rw [show (own_f3_2 x0 x1 : Int32) = (1 : Int32) from rfl]
    refine own_if0P X832 hx (hb hby at_501) (cd := .eq) (x := (1 : Int32)) (pt := 508) (q := 504) (by decide) (by decide) rfl rfl (fun h => False.elim (((by decide) : ¬ ((1 : Int32) = (0 : Int32))) h)) (fun _ => ?_)
    refine own_iconst X832 hx (v := (1 : Int32)) (hb hby at_504) (q := 505) rfl rfl ?_
    refine own_goto X832 hx (hb hby at_505) (q := 509) (by decide) (by decide) ?_
    refine own_retN X832 hx hlk (t := .boolean) (by simp) Bd.returns (hb hby at_509) ?_ (by decide) (by decide)
    exact ⟨rfl, N824⟩
  have J3 : ∀ (x0 x1 x2 t0 t1 t2 t3 t4 t5 : Int32) (Tj : State) (hj : Heap) (lj : List Loc), Stand p l e room_1 s m #[.int p1, .long q2, .long q3, .long q4] below meth c Tj lj 4 24 → Tj.heap = hj → own_A Z hj a488 .int [.int t0, .int t1, .int t2, .int t3, .int t4, .int t5] → own_A Z hj a546 .int [.int t0, .int t1, .int t2, .int t3, .int t4, .int t5] → own_A Z hj a612 .int [.int t0, .int t1, .int t2, .int t3, .int t4, .int t5] → own_A Z hj a686 .int [.int x0, .int x1, .int x2, .int (0 : Int32), .int (0 : Int32), .int (0 : Int32)] → n0 ≤ hj.size → Fr n0 lj → own_S3 x0 x1 x2 → own_Go p e below (own_E s 24 128 (own_Q0 n0)) (Tj.setTop (mkF m 262 #[.val (.int p1), .val (.long q2), .second, .val (.long q3), .second, .val (.long q4), .second, .val (.int (((p1 &&& (2147483647 : Int32)) % (63 : Int32)) + (1 : Int32))), .val (.ref a488), .val (.ref a546), .val (.ref a612), .val (.ref a686), .val (.int (3 : Int32)), .unset, .unset] [])) := by
    intro x0 x1 x2 t0 t1 t2 t3 t4 t5 Tj hj lj Xj ej Aj0 Aj1 Aj2 Aj3 Zj Nj hS
    refine own_aload Xj hx (hb hby at_262) (q := 264) rfl rfl rfl ?_
    refine own_iload Xj hx (hb hby at_264) (q := 266) rfl rfl ?_
    refine own_callS Xj hx hZ hown (hw _ (List.mem_of_getElem? (i := 2) rfl)) (hw _ (List.mem_of_getElem? (i := 3) rfl)) (hw _ (List.mem_of_getElem? (i := 4) rfl)) (hw _ (List.mem_of_getElem? (i := 5) rfl)) (by decide) (rm1_3 l Z a0 hw [] a686 x0 x1 x2 hj n0 Zj Aj3 ) own_pd0 rfl ej (by rw [hml]; rfl) (argsL := [.ref a686, .int (3 : Int32)]) (st := []) rfl (W := 0) (Nat.le_of_eq rfl) (by decide) (by decide) (by decide) (by decide) (hb hby at_266) (q := 269) rfl (fun v840 T841 L842 X843 hQ844 => ?_)
    obtain ⟨a848, rfl, N845, K846, O849, A850⟩ := hQ844
    have A851 := Aj0.keep K846 nin0
    have A852 := Aj1.keep K846 nin0
    have A853 := Aj2.keep K846 nin0
    have A854 := Aj3.keep K846 nin0
    have Z855 : n0 ≤ T841.heap.size := Nat.le_trans Zj K846.1
    have N847 := Fr.app Nj N845
    have ne856 : a488 ≠ a848 := Nat.ne_of_lt (Nat.lt_of_lt_of_le Aj0.lt O849)
    have ne857 : a546 ≠ a848 := Nat.ne_of_lt (Nat.lt_of_lt_of_le Aj1.lt O849)
    have ne858 : a612 ≠ a848 := Nat.ne_of_lt (Nat.lt_of_lt_of_le Aj2.lt O849)
    have ne859 : a686 ≠ a848 := Nat.ne_of_lt (Nat.lt_of_lt_of_le Aj3.lt O849)
    have Z860 : n0 ≤ a848 := Nat.le_trans Zj O849
    show own_Go p e below (own_E s 24 128 (own_Q0 n0)) (T841.setTop (mkF m 269 #[.val (.int p1), .val (.long q2), .second, .val (.long q3), .second, .val (.long q4), .second, .val (.int (((p1 &&& (2147483647 : Int32)) % (63 : Int32)) + (1 : Int32))), .val (.ref a488), .val (.ref a546), .val (.ref a612), .val (.ref a686), .val (.int (3 : Int32)), .unset, .unset] [.ref a848]))
    refine own_astore (L' := #[.val (.int p1), .val (.long q2), .second, .val (.long q3), .second, .val (.long q4), .second, .val (.int (((p1 &&& (2147483647 : Int32)) % (63 : Int32)) + (1 : Int32))), .val (.ref a488), .val (.ref a546), .val (.ref a612), .val (.ref a686), .val (.int (3 : Int32)), .val (.ref a848), .unset]) X843 hx (hb hby at_269) (q := 271) rfl rfl rfl ?_
    refine own_iload X843 hx (hb hby at_271) (q := 273) rfl rfl ?_
    refine own_iconst X843 hx (v := (1 : Int32)) (hb hby at_273) (q := 274) rfl rfl ?_
    refine own_icmpP X843 hx (hb hby at_274) (cd := .lt) (x := (3 : Int32)) (y := (1 : Int32)) (pt := 294) (q := 277) (by decide) (by decide) rfl rfl (fun h => False.elim (((by decide) : ¬ ((3 : Int32) < (1 : Int32))) h)) (fun _ => ?_)
    refine own_aload X843 hx (hb hby at_277) (q := 279) rfl rfl rfl ?_
    refine own_aload X843 hx (hb hby at_279) (q := 281) rfl rfl rfl ?_
    refine own_iconst X843 hx (v := (1 : Int32)) (hb hby at_281) (q := 282) rfl rfl ?_
    refine own_iload X843 hx (hb hby at_282) (q := 284) rfl rfl ?_
    refine own_irem X843 hx (hb hby at_284) (q := 285) rfl (by decide) ?_
    rw [show ((1 : Int32) % (3 : Int32) : Int32) = (1 : Int32) from by decide]
    refine own_iaload X843 hx hZ (i := 1) (v := .int x1) rfl A854 (by decide) (by decide) rfl (hb hby at_285) (q := 286) rfl ?_
    refine own_aload X843 hx (hb hby at_286) (q := 288) rfl rfl rfl ?_
    refine own_aload X843 hx (hb hby at_288) (q := 290) rfl rfl rfl ?_
    refine own_iconst X843 hx (v := (0 : Int32)) (hb hby at_290) (q := 291) rfl rfl ?_
    refine own_iaload X843 hx hZ (i := 0) (v := .int x0) rfl A854 (by decide) (by decide) rfl (hb hby at_291) (q := 292) rfl ?_
    refine own_iaload X843 hx hZ (i := (x0).toNatClampNeg) (v := .int (own_v3_316 x0 x1 x2 t0 t1 t2 t3 t4 t5)) rfl A851 (own_nn6 (own_S3_0 hS)) rfl (own_cat6V (own_S3_0 hS)) (hb hby at_292) (q := 293) rfl ?_
    refine own_iastore X843 hx hZ (i := (x1).toNatClampNeg) rfl A853 (own_nn6 (own_S3_1 hS)) rfl (own_lt6 (own_S3_1 hS)) (hb hby at_293) (q := 294) rfl (fun T861 h864 X862 e863 W865 A866 => ?_)
    replace A866 : own_A Z h864 a612 .int [.int (own_v3_317 x0 x1 x2 t0 t1 t2 t3 t4 t5), .int (own_v3_318 x0 x1 x2 t0 t1 t2 t3 t4 t5), .int (own_v3_319 x0 x1 x2 t0 t1 t2 t3 t4 t5), .int (own_v3_320 x0 x1 x2 t0 t1 t2 t3 t4 t5), .int (own_v3_321 x0 x1 x2 t0 t1 t2 t3 t4 t5), .int (own_v3_322 x0 x1 x2 t0 t1 t2 t3 t4 t5)] := by rw [own_set6 (own_S3_1 hS)] at A866; exact A866
    have A867 := A851.other W865 ne618
    have A868 := A852.other W865 ne619
    have A869 := A854.other W865 (Ne.symm ne695)
    have A870 := A850.other W865 (Ne.symm ne858)
    have Z871 : n0 ≤ h864.size := W865.size ▸ Z855
    have N872 := Fr.snoc X862 N847 Z620
    refine own_iload X862 hx (hb hby at_294) (q := 296) rfl rfl ?_
    refine own_iconst X862 hx (v := (2 : Int32)) (hb hby at_296) (q := 297) rfl rfl ?_
    refine own_icmpP X862 hx (hb hby at_297) (cd := .lt) (x := (3 : Int32)) (y := (2 : Int32)) (pt := 317) (q := 300) (by decide) (by decide) rfl rfl (fun h => False.elim (((by decide) : ¬ ((3 : Int32) < (2 : Int32))) h)) (fun _ => ?_)
    refine own_aload X862 hx (hb hby at_300) (q := 302) rfl rfl rfl ?_
    refine own_aload X862 hx (hb hby at_302) (q := 304) rfl rfl rfl ?_
    refine own_iconst X862 hx (v := (2 : Int32)) (hb hby at_304) (q := 305) rfl rfl ?_
    refine own_iload X862 hx (hb hby at_305) (q := 307) rfl rfl ?_
    refine own_irem X862 hx (hb hby at_307) (q := 308) rfl (by decide) ?_
    rw [show ((2 : Int32) % (3 : Int32) : Int32) = (2 : Int32) from by decide]
    refine own_iaload X862 hx hZ (i := 2) (v := .int x2) e863 A869 (by decide) (by decide) rfl (hb hby at_308) (q := 309) rfl ?_
    refine own_aload X862 hx (hb hby at_309) (q := 311) rfl rfl rfl ?_
    refine own_aload X862 hx (hb hby at_311) (q := 313) rfl rfl rfl ?_
    refine own_iconst X862 hx (v := (1 : Int32)) (hb hby at_313) (q := 314) rfl rfl ?_
    refine own_iaload X862 hx hZ (i := 1) (v := .int x1) e863 A869 (by decide) (by decide) rfl (hb hby at_314) (q := 315) rfl ?_
    refine own_iaload X862 hx hZ (i := (x1).toNatClampNeg) (v := .int (own_v3_323 x0 x1 x2 t0 t1 t2 t3 t4 t5)) e863 A867 (own_nn6 (own_S3_1 hS)) rfl (own_cat6V (own_S3_1 hS)) (hb hby at_315) (q := 316) rfl ?_
    refine own_iastore X862 hx hZ (i := (x2).toNatClampNeg) e863 A866 (own_nn6 (own_S3_2 hS)) rfl (own_lt6 (own_S3_2 hS)) (hb hby at_316) (q := 317) rfl (fun T873 h876 X874 e875 W877 A878 => ?_)
    replace A878 : own_A Z h876 a612 .int [.int (own_v3_324 x0 x1 x2 t0 t1 t2 t3 t4 t5), .int (own_v3_325 x0 x1 x2 t0 t1 t2 t3 t4 t5), .int (own_v3_326 x0 x1 x2 t0 t1 t2 t3 t4 t5), .int (own_v3_327 x0 x1 x2 t0 t1 t2 t3 t4 t5), .int (own_v3_328 x0 x1 x2 t0 t1 t2 t3 t4 t5), .int (own_v3_329 x0 x1 x2 t0 t1 t2 t3 t4 t5)] := by rw [own_set6 (own_S3_2 hS)] at A878; exact A878
    have A879 := A867.other W877 ne618
    have A880 := A868.other W877 ne619
    have A881 := A869.other W877 (Ne.symm ne695)
    have A882 := A870.other W877 (Ne.symm ne858)
    have Z883 : n0 ≤ h876.size := W877.size ▸ Z871
    have N884 := Fr.snoc X874 N872 Z620
    refine own_iload X874 hx (hb hby at_317) (q := 319) rfl rfl ?_
    refine own_iconst X874 hx (v := (3 : Int32)) (hb hby at_319) (q := 320) rfl rfl ?_
    refine own_icmpP X874 hx (hb hby at_320) (cd := .lt) (x := (3 : Int32)) (y := (3 : Int32)) (pt := 340) (q := 323) (by decide) (by decide) rfl rfl (fun h => False.elim (((by decide) : ¬ ((3 : Int32) < (3 : Int32))) h)) (fun _ => ?_)
    refine own_aload X874 hx (hb hby at_323) (q := 325) rfl rfl rfl ?_
    refine own_aload X874 hx (hb hby at_325) (q := 327) rfl rfl rfl ?_
    refine own_iconst X874 hx (v := (3 : Int32)) (hb hby at_327) (q := 328) rfl rfl ?_
    refine own_iload X874 hx (hb hby at_328) (q := 330) rfl rfl ?_
    refine own_irem X874 hx (hb hby at_330) (q := 331) rfl (by decide) ?_
    rw [show ((3 : Int32) % (3 : Int32) : Int32) = (0 : Int32) from by decide]
    refine own_iaload X874 hx hZ (i := 0) (v := .int x0) e875 A881 (by decide) (by decide) rfl (hb hby at_331) (q := 332) rfl ?_
    refine own_aload X874 hx (hb hby at_332) (q := 334) rfl rfl rfl ?_
    refine own_aload X874 hx (hb hby at_334) (q := 336) rfl rfl rfl ?_
    refine own_iconst X874 hx (v := (2 : Int32)) (hb hby at_336) (q := 337) rfl rfl ?_
    refine own_iaload X874 hx hZ (i := 2) (v := .int x2) e875 A881 (by decide) (by decide) rfl (hb hby at_337) (q := 338) rfl ?_
    refine own_iaload X874 hx hZ (i := (x2).toNatClampNeg) (v := .int (own_v3_330 x0 x1 x2 t0 t1 t2 t3 t4 t5)) e875 A879 (own_nn6 (own_S3_2 hS)) rfl (own_cat6V (own_S3_2 hS)) (hb hby at_338) (q := 339) rfl ?_
    refine own_iastore X874 hx hZ (i := (x0).toNatClampNeg) e875 A878 (own_nn6 (own_S3_0 hS)) rfl (own_lt6 (own_S3_0 hS)) (hb hby at_339) (q := 340) rfl (fun T885 h888 X886 e887 W889 A890 => ?_)
    replace A890 : own_A Z h888 a612 .int [.int (own_v3_331 x0 x1 x2 t0 t1 t2 t3 t4 t5), .int (own_v3_332 x0 x1 x2 t0 t1 t2 t3 t4 t5), .int (own_v3_333 x0 x1 x2 t0 t1 t2 t3 t4 t5), .int (own_v3_334 x0 x1 x2 t0 t1 t2 t3 t4 t5), .int (own_v3_335 x0 x1 x2 t0 t1 t2 t3 t4 t5), .int (own_v3_336 x0 x1 x2 t0 t1 t2 t3 t4 t5)] := by rw [own_set6 (own_S3_0 hS)] at A890; exact A890
    have A891 := A879.other W889 ne618
    have A892 := A880.other W889 ne619
    have A893 := A881.other W889 (Ne.symm ne695)
    have A894 := A882.other W889 (Ne.symm ne858)
    have Z895 : n0 ≤ h888.size := W889.size ▸ Z883
    have N896 := Fr.snoc X886 N884 Z620
    refine own_iload X886 hx (hb hby at_340) (q := 342) rfl rfl ?_
    refine own_iconst X886 hx (v := (4 : Int32)) (hb hby at_342) (q := 343) rfl rfl ?_
    refine own_icmpP X886 hx (hb hby at_343) (cd := .lt) (x := (3 : Int32)) (y := (4 : Int32)) (pt := 363) (q := 346) (by decide) (by decide) rfl rfl (fun _ => ?_) (fun h => False.elim (h ((by decide) : (3 : Int32) < (4 : Int32))))
    refine own_iload X886 hx (hb hby at_363) (q := 365) rfl rfl ?_
    refine own_iconst X886 hx (v := (5 : Int32)) (hb hby at_365) (q := 366) rfl rfl ?_
    refine own_icmpP X886 hx (hb hby at_366) (cd := .lt) (x := (3 : Int32)) (y := (5 : Int32)) (pt := 386) (q := 369) (by decide) (by decide) rfl rfl (fun _ => ?_) (fun h => False.elim (h ((by decide) : (3 : Int32) < (5 : Int32))))
    refine own_iload X886 hx (hb hby at_386) (q := 388) rfl rfl ?_
    refine own_bipush X886 hx (v := (6 : Int32)) (hb hby at_388) (q := 390) rfl rfl ?_
    refine own_icmpP X886 hx (hb hby at_390) (cd := .lt) (x := (3 : Int32)) (y := (6 : Int32)) (pt := 407) (q := 393) (by decide) (by decide) rfl rfl (fun _ => ?_) (fun h => False.elim (h ((by decide) : (3 : Int32) < (6 : Int32))))
    refine own_aload X886 hx (hb hby at_407) (q := 409) rfl rfl rfl ?_
    refine own_aload X886 hx (hb hby at_409) (q := 411) rfl rfl rfl ?_
    refine own_callS X886 hx hZ hown (hw _ (List.mem_of_getElem? (i := 6) rfl)) (hw _ (List.mem_of_getElem? (i := 7) rfl)) (hw _ (List.mem_of_getElem? (i := 8) rfl)) (hw _ (List.mem_of_getElem? (i := 9) rfl)) (by decide) (rm2_3 l Z a0 hw [] a546 a848 t0 t1 t2 t3 t4 t5 x0 x1 x2 h888 n0 A892 A894 Z552 (Ne.symm ne857) hS) own_pd1 rfl e887 (by rw [hml]; rfl) (argsL := [.ref a546, .ref a848]) (st := []) rfl (W := 0) (Nat.le_of_eq rfl) (by decide) (by decide) (by decide) (by decide) (hb hby at_411) (q := 414) rfl (fun v903 T904 L905 X906 hQ907 => ?_)
    obtain ⟨rfl, N908, K909, A911, A912⟩ := hQ907
    have A913 := A891.keep K909 (ninS ne551 nin0)
    have A914 := A893.keep K909 (ninS (Ne.symm ne694) nin0)
    have A915 := A890.keep K909 (ninS (Ne.symm ne619) nin0)
    have Z916 : n0 ≤ T904.heap.size := Nat.le_trans Z895 K909.1
    have N910 := Fr.app N896 N908
    show own_Go p e below (own_E s 24 128 (own_Q0 n0)) (T904.setTop (mkF m 414 #[.val (.int p1), .val (.long q2), .second, .val (.long q3), .second, .val (.long q4), .second, .val (.int (((p1 &&& (2147483647 : Int32)) % (63 : Int32)) + (1 : Int32))), .val (.ref a488), .val (.ref a546), .val (.ref a612), .val (.ref a686), .val (.int (3 : Int32)), .val (.ref a848), .unset] []))
    refine own_aload X906 hx (hb hby at_414) (q := 416) rfl rfl rfl ?_
    refine own_iconst X906 hx (v := (0 : Int32)) (hb hby at_416) (q := 417) rfl rfl ?_
    refine own_iaload X906 hx hZ (i := 0) (v := .int (own_v3_58 x0 x1 x2 t0 t1 t2 t3 t4 t5)) rfl A911 (by decide) (by decide) rfl (hb hby at_417) (q := 418) rfl ?_
    refine own_aload X906 hx (hb hby at_418) (q := 420) rfl rfl rfl ?_
    refine own_iconst X906 hx (v := (0 : Int32)) (hb hby at_420) (q := 421) rfl rfl ?_
    refine own_iaload X906 hx hZ (i := 0) (v := .int (own_v3_331 x0 x1 x2 t0 t1 t2 t3 t4 t5)) rfl A915 (by decide) (by decide) rfl (hb hby at_421) (q := 422) rfl ?_
    refine own_icmpM X906 hx (hb hby at_422) (cd := .ne) (x := own_v3_58 x0 x1 x2 t0 t1 t2 t3 t4 t5) (y := own_v3_331 x0 x1 x2 t0 t1 t2 t3 t4 t5) (pt := 484) (q := 425) (by decide) (by decide) rfl rfl (fun h => False.elim (h ((own_eq_3_422 hS) : (own_v3_58 x0 x1 x2 t0 t1 t2 t3 t4 t5) = (own_v3_331 x0 x1 x2 t0 t1 t2 t3 t4 t5)))) (fun _ => ?_)
    refine own_aload X906 hx (hb hby at_425) (q := 427) rfl rfl rfl ?_
    refine own_iconst X906 hx (v := (1 : Int32)) (hb hby at_427) (q := 428) rfl rfl ?_
    refine own_iaload X906 hx hZ (i := 1) (v := .int (own_v3_59 x0 x1 x2 t0 t1 t2 t3 t4 t5)) rfl A911 (by decide) (by decide) rfl (hb hby at_428) (q := 429) rfl ?_
    refine own_aload X906 hx (hb hby at_429) (q := 431) rfl rfl rfl ?_
    refine own_iconst X906 hx (v := (1 : Int32)) (hb hby at_431) (q := 432) rfl rfl ?_
    refine own_iaload X906 hx hZ (i := 1) (v := .int (own_v3_332 x0 x1 x2 t0 t1 t2 t3 t4 t5)) rfl A915 (by decide) (by decide) rfl (hb hby at_432) (q := 433) rfl ?_
    refine own_icmpM X906 hx (hb hby at_433) (cd := .ne) (x := own_v3_59 x0 x1 x2 t0 t1 t2 t3 t4 t5) (y := own_v3_332 x0 x1 x2 t0 t1 t2 t3 t4 t5) (pt := 484) (q := 436) (by decide) (by decide) rfl rfl (fun h => False.elim (h ((own_eq_3_433 hS) : (own_v3_59 x0 x1 x2 t0 t1 t2 t3 t4 t5) = (own_v3_332 x0 x1 x2 t0 t1 t2 t3 t4 t5)))) (fun _ => ?_)
    refine own_aload X906 hx (hb hby at_436) (q := 438) rfl rfl rfl ?_
    refine own_iconst X906 hx (v := (2 : Int32)) (hb hby at_438) (q := 439) rfl rfl ?_
    refine own_iaload X906 hx hZ (i := 2) (v := .int (own_v3_60 x0 x1 x2 t0 t1 t2 t3 t4 t5)) rfl A911 (by decide) (by decide) rfl (hb hby at_439) (q := 440) rfl ?_
    refine own_aload X906 hx (hb hby at_440) (q := 442) rfl rfl rfl ?_
    refine own_iconst X906 hx (v := (2 : Int32)) (hb hby at_442) (q := 443) rfl rfl ?_
    refine own_iaload X906 hx hZ (i := 2) (v := .int (own_v3_333 x0 x1 x2 t0 t1 t2 t3 t4 t5)) rfl A915 (by decide) (by decide) rfl (hb hby at_443) (q := 444) rfl ?_
    refine own_icmpM X906 hx (hb hby at_444) (cd := .ne) (x := own_v3_60 x0 x1 x2 t0 t1 t2 t3 t4 t5) (y := own_v3_333 x0 x1 x2 t0 t1 t2 t3 t4 t5) (pt := 484) (q := 447) (by decide) (by decide) rfl rfl (fun h => False.elim (h ((own_eq_3_444 hS) : (own_v3_60 x0 x1 x2 t0 t1 t2 t3 t4 t5) = (own_v3_333 x0 x1 x2 t0 t1 t2 t3 t4 t5)))) (fun _ => ?_)
    refine own_aload X906 hx (hb hby at_447) (q := 449) rfl rfl rfl ?_
    refine own_iconst X906 hx (v := (3 : Int32)) (hb hby at_449) (q := 450) rfl rfl ?_
    refine own_iaload X906 hx hZ (i := 3) (v := .int (own_v3_61 x0 x1 x2 t0 t1 t2 t3 t4 t5)) rfl A911 (by decide) (by decide) rfl (hb hby at_450) (q := 451) rfl ?_
    refine own_aload X906 hx (hb hby at_451) (q := 453) rfl rfl rfl ?_
    refine own_iconst X906 hx (v := (3 : Int32)) (hb hby at_453) (q := 454) rfl rfl ?_
    refine own_iaload X906 hx hZ (i := 3) (v := .int (own_v3_334 x0 x1 x2 t0 t1 t2 t3 t4 t5)) rfl A915 (by decide) (by decide) rfl (hb hby at_454) (q := 455) rfl ?_
    refine own_icmpM X906 hx (hb hby at_455) (cd := .ne) (x := own_v3_61 x0 x1 x2 t0 t1 t2 t3 t4 t5) (y := own_v3_334 x0 x1 x2 t0 t1 t2 t3 t4 t5) (pt := 484) (q := 458) (by decide) (by decide) rfl rfl (fun h => False.elim (h ((own_eq_3_455 hS) : (own_v3_61 x0 x1 x2 t0 t1 t2 t3 t4 t5) = (own_v3_334 x0 x1 x2 t0 t1 t2 t3 t4 t5)))) (fun _ => ?_)
    refine own_aload X906 hx (hb hby at_458) (q := 460) rfl rfl rfl ?_
    refine own_iconst X906 hx (v := (4 : Int32)) (hb hby at_460) (q := 461) rfl rfl ?_
    refine own_iaload X906 hx hZ (i := 4) (v := .int (own_v3_62 x0 x1 x2 t0 t1 t2 t3 t4 t5)) rfl A911 (by decide) (by decide) rfl (hb hby at_461) (q := 462) rfl ?_
    refine own_aload X906 hx (hb hby at_462) (q := 464) rfl rfl rfl ?_
    refine own_iconst X906 hx (v := (4 : Int32)) (hb hby at_464) (q := 465) rfl rfl ?_
    refine own_iaload X906 hx hZ (i := 4) (v := .int (own_v3_335 x0 x1 x2 t0 t1 t2 t3 t4 t5)) rfl A915 (by decide) (by decide) rfl (hb hby at_465) (q := 466) rfl ?_
    refine own_icmpM X906 hx (hb hby at_466) (cd := .ne) (x := own_v3_62 x0 x1 x2 t0 t1 t2 t3 t4 t5) (y := own_v3_335 x0 x1 x2 t0 t1 t2 t3 t4 t5) (pt := 484) (q := 469) (by decide) (by decide) rfl rfl (fun h => False.elim (h ((own_eq_3_466 hS) : (own_v3_62 x0 x1 x2 t0 t1 t2 t3 t4 t5) = (own_v3_335 x0 x1 x2 t0 t1 t2 t3 t4 t5)))) (fun _ => ?_)
    refine own_aload X906 hx (hb hby at_469) (q := 471) rfl rfl rfl ?_
    refine own_iconst X906 hx (v := (5 : Int32)) (hb hby at_471) (q := 472) rfl rfl ?_
    refine own_iaload X906 hx hZ (i := 5) (v := .int (own_v3_63 x0 x1 x2 t0 t1 t2 t3 t4 t5)) rfl A911 (by decide) (by decide) rfl (hb hby at_472) (q := 473) rfl ?_
    refine own_aload X906 hx (hb hby at_473) (q := 475) rfl rfl rfl ?_
    refine own_iconst X906 hx (v := (5 : Int32)) (hb hby at_475) (q := 476) rfl rfl ?_
    refine own_iaload X906 hx hZ (i := 5) (v := .int (own_v3_336 x0 x1 x2 t0 t1 t2 t3 t4 t5)) rfl A915 (by decide) (by decide) rfl (hb hby at_476) (q := 477) rfl ?_
    refine own_icmpM X906 hx (hb hby at_477) (cd := .ne) (x := own_v3_63 x0 x1 x2 t0 t1 t2 t3 t4 t5) (y := own_v3_336 x0 x1 x2 t0 t1 t2 t3 t4 t5) (pt := 484) (q := 480) (by decide) (by decide) rfl rfl (fun h => False.elim (h ((own_eq_3_477 hS) : (own_v3_63 x0 x1 x2 t0 t1 t2 t3 t4 t5) = (own_v3_336 x0 x1 x2 t0 t1 t2 t3 t4 t5)))) (fun _ => ?_)
    refine own_iconst X906 hx (v := (1 : Int32)) (hb hby at_480) (q := 481) rfl rfl ?_
    refine own_goto X906 hx (hb hby at_481) (q := 485) (by decide) (by decide) ?_
    refine own_istore (L' := #[.val (.int p1), .val (.long q2), .second, .val (.long q3), .second, .val (.long q4), .second, .val (.int (((p1 &&& (2147483647 : Int32)) % (63 : Int32)) + (1 : Int32))), .val (.ref a488), .val (.ref a546), .val (.ref a612), .val (.ref a686), .val (.int (3 : Int32)), .val (.ref a848), .val (.int (1 : Int32))]) X906 hx (hb hby at_485) (q := 487) rfl rfl ?_
    refine own_iload X906 hx (hb hby at_487) (q := 489) rfl rfl ?_
    refine own_if0P X906 hx (hb hby at_489) (cd := .eq) (x := (1 : Int32)) (pt := 508) (q := 492) (by decide) (by decide) rfl rfl (fun h => False.elim (((by decide) : ¬ ((1 : Int32) = (0 : Int32))) h)) (fun _ => ?_)
    refine own_aload X906 hx (hb hby at_492) (q := 494) rfl rfl rfl ?_
    refine own_aload X906 hx (hb hby at_494) (q := 496) rfl rfl rfl ?_
    refine own_iload X906 hx (hb hby at_496) (q := 498) rfl rfl ?_
    refine own_callSP X906 hx hZ hown (hw _ (List.mem_of_getElem? (i := 10) rfl)) (hw _ (List.mem_of_getElem? (i := 11) rfl)) (hw _ (List.mem_of_getElem? (i := 4) rfl)) (hw _ (List.mem_of_getElem? (i := 12) rfl)) (by decide) (rm3_3 l Z a0 hw [] a848 a686 x0 x1 x2 T904.heap A912 A914) own_pd2 rfl rfl (by rw [hml]; rfl) (argsL := [.ref a848, .ref a686, .int (3 : Int32)]) (st := []) rfl (W := 0) (Nat.le_of_eq rfl) (by decide) (by decide) (by decide) (by decide) (hb hby at_498) (q := 501) rfl (fun T917 X918 e919 => ?_)
    rw [show (own_f3_3 x0 x1 x2 : Int32) = (1 : Int32) from rfl]
    refine own_if0P X918 hx (hb hby at_501) (cd := .eq) (x := (1 : Int32)) (pt := 508) (q := 504) (by decide) (by decide) rfl rfl (fun h => False.elim (((by decide) : ¬ ((1 : Int32) = (0 : Int32))) h)) (fun _ => ?_)
    refine own_iconst X918 hx (v := (1 : Int32)) (hb hby at_504) (q := 505) rfl rfl ?_
    refine own_goto X918 hx (hb hby at_505) (q := 509) (by decide) (by decide) ?_
    refine own_retN X918 hx hlk (t := .boolean) (by simp) Bd.returns (hb hby at_509) ?_ (by decide) (by decide)
    exact ⟨rfl, N910⟩
  have J4 : ∀ (x0 x1 x2 x3 t0 t1 t2 t3 t4 t5 : Int32) (Tj : State) (hj : Heap) (lj : List Loc), Stand p l e room_1 s m #[.int p1, .long q2, .long q3, .long q4] below meth c Tj lj 4 24 → Tj.heap = hj → own_A Z hj a488 .int [.int t0, .int t1, .int t2, .int t3, .int t4, .int t5] → own_A Z hj a546 .int [.int t0, .int t1, .int t2, .int t3, .int t4, .int t5] → own_A Z hj a612 .int [.int t0, .int t1, .int t2, .int t3, .int t4, .int t5] → own_A Z hj a686 .int [.int x0, .int x1, .int x2, .int x3, .int (0 : Int32), .int (0 : Int32)] → n0 ≤ hj.size → Fr n0 lj → own_S4 x0 x1 x2 x3 → own_Go p e below (own_E s 24 128 (own_Q0 n0)) (Tj.setTop (mkF m 262 #[.val (.int p1), .val (.long q2), .second, .val (.long q3), .second, .val (.long q4), .second, .val (.int (((p1 &&& (2147483647 : Int32)) % (63 : Int32)) + (1 : Int32))), .val (.ref a488), .val (.ref a546), .val (.ref a612), .val (.ref a686), .val (.int (4 : Int32)), .unset, .unset] [])) := by
    intro x0 x1 x2 x3 t0 t1 t2 t3 t4 t5 Tj hj lj Xj ej Aj0 Aj1 Aj2 Aj3 Zj Nj hS
    refine own_aload Xj hx (hb hby at_262) (q := 264) rfl rfl rfl ?_
    refine own_iload Xj hx (hb hby at_264) (q := 266) rfl rfl ?_
    refine own_callS Xj hx hZ hown (hw _ (List.mem_of_getElem? (i := 2) rfl)) (hw _ (List.mem_of_getElem? (i := 3) rfl)) (hw _ (List.mem_of_getElem? (i := 4) rfl)) (hw _ (List.mem_of_getElem? (i := 5) rfl)) (by decide) (rm1_4 l Z a0 hw [] a686 x0 x1 x2 x3 hj n0 Zj Aj3 ) own_pd0 rfl ej (by rw [hml]; rfl) (argsL := [.ref a686, .int (4 : Int32)]) (st := []) rfl (W := 0) (Nat.le_of_eq rfl) (by decide) (by decide) (by decide) (by decide) (hb hby at_266) (q := 269) rfl (fun v926 T927 L928 X929 hQ930 => ?_)
    obtain ⟨a934, rfl, N931, K932, O935, A936⟩ := hQ930
    have A937 := Aj0.keep K932 nin0
    have A938 := Aj1.keep K932 nin0
    have A939 := Aj2.keep K932 nin0
    have A940 := Aj3.keep K932 nin0
    have Z941 : n0 ≤ T927.heap.size := Nat.le_trans Zj K932.1
    have N933 := Fr.app Nj N931
    have ne942 : a488 ≠ a934 := Nat.ne_of_lt (Nat.lt_of_lt_of_le Aj0.lt O935)
    have ne943 : a546 ≠ a934 := Nat.ne_of_lt (Nat.lt_of_lt_of_le Aj1.lt O935)
    have ne944 : a612 ≠ a934 := Nat.ne_of_lt (Nat.lt_of_lt_of_le Aj2.lt O935)
    have ne945 : a686 ≠ a934 := Nat.ne_of_lt (Nat.lt_of_lt_of_le Aj3.lt O935)
    have Z946 : n0 ≤ a934 := Nat.le_trans Zj O935
    show own_Go p e below (own_E s 24 128 (own_Q0 n0)) (T927.setTop (mkF m 269 #[.val (.int p1), .val (.long q2), .second, .val (.long q3), .second, .val (.long q4), .second, .val (.int (((p1 &&& (2147483647 : Int32)) % (63 : Int32)) + (1 : Int32))), .val (.ref a488), .val (.ref a546), .val (.ref a612), .val (.ref a686), .val (.int (4 : Int32)), .unset, .unset] [.ref a934]))
    refine own_astore (L' := #[.val (.int p1), .val (.long q2), .second, .val (.long q3), .second, .val (.long q4), .second, .val (.int (((p1 &&& (2147483647 : Int32)) % (63 : Int32)) + (1 : Int32))), .val (.ref a488), .val (.ref a546), .val (.ref a612), .val (.ref a686), .val (.int (4 : Int32)), .val (.ref a934), .unset]) X929 hx (hb hby at_269) (q := 271) rfl rfl rfl ?_
    refine own_iload X929 hx (hb hby at_271) (q := 273) rfl rfl ?_
    refine own_iconst X929 hx (v := (1 : Int32)) (hb hby at_273) (q := 274) rfl rfl ?_
    refine own_icmpP X929 hx (hb hby at_274) (cd := .lt) (x := (4 : Int32)) (y := (1 : Int32)) (pt := 294) (q := 277) (by decide) (by decide) rfl rfl (fun h => False.elim (((by decide) : ¬ ((4 : Int32) < (1 : Int32))) h)) (fun _ => ?_)
    refine own_aload X929 hx (hb hby at_277) (q := 279) rfl rfl rfl ?_
    refine own_aload X929 hx (hb hby at_279) (q := 281) rfl rfl rfl ?_
    refine own_iconst X929 hx (v := (1 : Int32)) (hb hby at_281) (q := 282) rfl rfl ?_
    refine own_iload X929 hx (hb hby at_282) (q := 284) rfl rfl ?_
    refine own_irem X929 hx (hb hby at_284) (q := 285) rfl (by decide) ?_
    rw [show ((1 : Int32) % (4 : Int32) : Int32) = (1 : Int32) from by decide]
    refine own_iaload X929 hx hZ (i := 1) (v := .int x1) rfl A940 (by decide) (by decide) rfl (hb hby at_285) (q := 286) rfl ?_
    refine own_aload X929 hx (hb hby at_286) (q := 288) rfl rfl rfl ?_
    refine own_aload X929 hx (hb hby at_288) (q := 290) rfl rfl rfl ?_
    refine own_iconst X929 hx (v := (0 : Int32)) (hb hby at_290) (q := 291) rfl rfl ?_
    refine own_iaload X929 hx hZ (i := 0) (v := .int x0) rfl A940 (by decide) (by decide) rfl (hb hby at_291) (q := 292) rfl ?_
    refine own_iaload X929 hx hZ (i := (x0).toNatClampNeg) (v := .int (own_v4_337 x0 x1 x2 x3 t0 t1 t2 t3 t4 t5)) rfl A937 (own_nn6 (own_S4_0 hS)) rfl (own_cat6V (own_S4_0 hS)) (hb hby at_292) (q := 293) rfl ?_
    refine own_iastore X929 hx hZ (i := (x1).toNatClampNeg) rfl A939 (own_nn6 (own_S4_1 hS)) rfl (own_lt6 (own_S4_1 hS)) (hb hby at_293) (q := 294) rfl (fun T947 h950 X948 e949 W951 A952 => ?_)
    replace A952 : own_A Z h950 a612 .int [.int (own_v4_338 x0 x1 x2 x3 t0 t1 t2 t3 t4 t5), .int (own_v4_339 x0 x1 x2 x3 t0 t1 t2 t3 t4 t5), .int (own_v4_340 x0 x1 x2 x3 t0 t1 t2 t3 t4 t5), .int (own_v4_341 x0 x1 x2 x3 t0 t1 t2 t3 t4 t5), .int (own_v4_342 x0 x1 x2 x3 t0 t1 t2 t3 t4 t5), .int (own_v4_343 x0 x1 x2 x3 t0 t1 t2 t3 t4 t5)] := by rw [own_set6 (own_S4_1 hS)] at A952; exact A952
    have A953 := A937.other W951 ne618
    have A954 := A938.other W951 ne619
    have A955 := A940.other W951 (Ne.symm ne695)
    have A956 := A936.other W951 (Ne.symm ne944)
    have Z957 : n0 ≤ h950.size := W951.size ▸ Z941
    have N958 := Fr.snoc X948 N933 Z620
    refine own_iload X948 hx (hb hby at_294) (q := 296) rfl rfl ?_
    refine own_iconst X948 hx (v := (2 : Int32)) (hb hby at_296) (q := 297) rfl rfl ?_
    refine own_icmpP X948 hx (hb hby at_297) (cd := .lt) (x := (4 : Int32)) (y := (2 : Int32)) (pt := 317) (q := 300) (by decide) (by decide) rfl rfl (fun h => False.elim (((by decide) : ¬ ((4 : Int32) < (2 : Int32))) h)) (fun _ => ?_)
    refine own_aload X948 hx (hb hby at_300) (q := 302) rfl rfl rfl ?_
    refine own_aload X948 hx (hb hby at_302) (q := 304) rfl rfl rfl ?_
    refine own_iconst X948 hx (v := (2 : Int32)) (hb hby at_304) (q := 305) rfl rfl ?_
    refine own_iload X948 hx (hb hby at_305) (q := 307) rfl rfl ?_
    refine own_irem X948 hx (hb hby at_307) (q := 308) rfl (by decide) ?_
    rw [show ((2 : Int32) % (4 : Int32) : Int32) = (2 : Int32) from by decide]
    refine own_iaload X948 hx hZ (i := 2) (v := .int x2) e949 A955 (by decide) (by decide) rfl (hb hby at_308) (q := 309) rfl ?_
    refine own_aload X948 hx (hb hby at_309) (q := 311) rfl rfl rfl ?_
    refine own_aload X948 hx (hb hby at_311) (q := 313) rfl rfl rfl ?_
    refine own_iconst X948 hx (v := (1 : Int32)) (hb hby at_313) (q := 314) rfl rfl ?_
    refine own_iaload X948 hx hZ (i := 1) (v := .int x1) e949 A955 (by decide) (by decide) rfl (hb hby at_314) (q := 315) rfl ?_
    refine own_iaload X948 hx hZ (i := (x1).toNatClampNeg) (v := .int (own_v4_344 x0 x1 x2 x3 t0 t1 t2 t3 t4 t5)) e949 A953 (own_nn6 (own_S4_1 hS)) rfl (own_cat6V (own_S4_1 hS)) (hb hby at_315) (q := 316) rfl ?_
    refine own_iastore X948 hx hZ (i := (x2).toNatClampNeg) e949 A952 (own_nn6 (own_S4_2 hS)) rfl (own_lt6 (own_S4_2 hS)) (hb hby at_316) (q := 317) rfl (fun T959 h962 X960 e961 W963 A964 => ?_)
    replace A964 : own_A Z h962 a612 .int [.int (own_v4_345 x0 x1 x2 x3 t0 t1 t2 t3 t4 t5), .int (own_v4_346 x0 x1 x2 x3 t0 t1 t2 t3 t4 t5), .int (own_v4_347 x0 x1 x2 x3 t0 t1 t2 t3 t4 t5), .int (own_v4_348 x0 x1 x2 x3 t0 t1 t2 t3 t4 t5), .int (own_v4_349 x0 x1 x2 x3 t0 t1 t2 t3 t4 t5), .int (own_v4_350 x0 x1 x2 x3 t0 t1 t2 t3 t4 t5)] := by rw [own_set6 (own_S4_2 hS)] at A964; exact A964
    have A965 := A953.other W963 ne618
    have A966 := A954.other W963 ne619
    have A967 := A955.other W963 (Ne.symm ne695)
    have A968 := A956.other W963 (Ne.symm ne944)
    have Z969 : n0 ≤ h962.size := W963.size ▸ Z957
    have N970 := Fr.snoc X960 N958 Z620
    refine own_iload X960 hx (hb hby at_317) (q := 319) rfl rfl ?_
    refine own_iconst X960 hx (v := (3 : Int32)) (hb hby at_319) (q := 320) rfl rfl ?_
    refine own_icmpP X960 hx (hb hby at_320) (cd := .lt) (x := (4 : Int32)) (y := (3 : Int32)) (pt := 340) (q := 323) (by decide) (by decide) rfl rfl (fun h => False.elim (((by decide) : ¬ ((4 : Int32) < (3 : Int32))) h)) (fun _ => ?_)
    refine own_aload X960 hx (hb hby at_323) (q := 325) rfl rfl rfl ?_
    refine own_aload X960 hx (hb hby at_325) (q := 327) rfl rfl rfl ?_
    refine own_iconst X960 hx (v := (3 : Int32)) (hb hby at_327) (q := 328) rfl rfl ?_
    refine own_iload X960 hx (hb hby at_328) (q := 330) rfl rfl ?_
    refine own_irem X960 hx (hb hby at_330) (q := 331) rfl (by decide) ?_
    rw [show ((3 : Int32) % (4 : Int32) : Int32) = (3 : Int32) from by decide]
    refine own_iaload X960 hx hZ (i := 3) (v := .int x3) e961 A967 (by decide) (by decide) rfl (hb hby at_331) (q := 332) rfl ?_
    refine own_aload X960 hx (hb hby at_332) (q := 334) rfl rfl rfl ?_
    refine own_aload X960 hx (hb hby at_334) (q := 336) rfl rfl rfl ?_
    refine own_iconst X960 hx (v := (2 : Int32)) (hb hby at_336) (q := 337) rfl rfl ?_
    refine own_iaload X960 hx hZ (i := 2) (v := .int x2) e961 A967 (by decide) (by decide) rfl (hb hby at_337) (q := 338) rfl ?_
    refine own_iaload X960 hx hZ (i := (x2).toNatClampNeg) (v := .int (own_v4_351 x0 x1 x2 x3 t0 t1 t2 t3 t4 t5)) e961 A965 (own_nn6 (own_S4_2 hS)) rfl (own_cat6V (own_S4_2 hS)) (hb hby at_338) (q := 339) rfl ?_
    refine own_iastore X960 hx hZ (i := (x3).toNatClampNeg) e961 A964 (own_nn6 (own_S4_3 hS)) rfl (own_lt6 (own_S4_3 hS)) (hb hby at_339) (q := 340) rfl (fun T971 h974 X972 e973 W975 A976 => ?_)
    replace A976 : own_A Z h974 a612 .int [.int (own_v4_352 x0 x1 x2 x3 t0 t1 t2 t3 t4 t5), .int (own_v4_353 x0 x1 x2 x3 t0 t1 t2 t3 t4 t5), .int (own_v4_354 x0 x1 x2 x3 t0 t1 t2 t3 t4 t5), .int (own_v4_355 x0 x1 x2 x3 t0 t1 t2 t3 t4 t5), .int (own_v4_356 x0 x1 x2 x3 t0 t1 t2 t3 t4 t5), .int (own_v4_357 x0 x1 x2 x3 t0 t1 t2 t3 t4 t5)] := by rw [own_set6 (own_S4_3 hS)] at A976; exact A976
    have A977 := A965.other W975 ne618
    have A978 := A966.other W975 ne619
    have A979 := A967.other W975 (Ne.symm ne695)
    have A980 := A968.other W975 (Ne.symm ne944)
    have Z981 : n0 ≤ h974.size := W975.size ▸ Z969
    have N982 := Fr.snoc X972 N970 Z620
    refine own_iload X972 hx (hb hby at_340) (q := 342) rfl rfl ?_
    refine own_iconst X972 hx (v := (4 : Int32)) (hb hby at_342) (q := 343) rfl rfl ?_
    refine own_icmpP X972 hx (hb hby at_343) (cd := .lt) (x := (4 : Int32)) (y := (4 : Int32)) (pt := 363) (q := 346) (by decide) (by decide) rfl rfl (fun h => False.elim (((by decide) : ¬ ((4 : Int32) < (4 : Int32))) h)) (fun _ => ?_)
    refine own_aload X972 hx (hb hby at_346) (q := 348) rfl rfl rfl ?_
    refine own_aload X972 hx (hb hby at_348) (q := 350) rfl rfl rfl ?_
    refine own_iconst X972 hx (v := (4 : Int32)) (hb hby at_350) (q := 351) rfl rfl ?_
    refine own_iload X972 hx (hb hby at_351) (q := 353) rfl rfl ?_
    refine own_irem X972 hx (hb hby at_353) (q := 354) rfl (by decide) ?_
    rw [show ((4 : Int32) % (4 : Int32) : Int32) = (0 : Int32) from by decide]
    refine own_iaload X972 hx hZ (i := 0) (v := .int x0) e973 A979 (by decide) (by decide) rfl (hb hby at_354) (q := 355) rfl ?_
    refine own_aload X972 hx (hb hby at_355) (q := 357) rfl rfl rfl ?_
    refine own_aload X972 hx (hb hby at_357) (q := 359) rfl rfl rfl ?_
    refine own_iconst X972 hx (v := (3 : Int32)) (hb hby at_359) (q := 360) rfl rfl ?_
    refine own_iaload X972 hx hZ (i := 3) (v := .int x3) e973 A979 (by decide) (by decide) rfl (hb hby at_360) (q := 361) rfl ?_
    refine own_iaload X972 hx hZ (i := (x3).toNatClampNeg) (v := .int (own_v4_358 x0 x1 x2 x3 t0 t1 t2 t3 t4 t5)) e973 A977 (own_nn6 (own_S4_3 hS)) rfl (own_cat6V (own_S4_3 hS)) (hb hby at_361) (q := 362) rfl ?_
    refine own_iastore X972 hx hZ (i := (x0).toNatClampNeg) e973 A976 (own_nn6 (own_S4_0 hS)) rfl (own_lt6 (own_S4_0 hS)) (hb hby at_362) (q := 363) rfl (fun T983 h986 X984 e985 W987 A988 => ?_)
    replace A988 : own_A Z h986 a612 .int [.int (own_v4_359 x0 x1 x2 x3 t0 t1 t2 t3 t4 t5), .int (own_v4_360 x0 x1 x2 x3 t0 t1 t2 t3 t4 t5), .int (own_v4_361 x0 x1 x2 x3 t0 t1 t2 t3 t4 t5), .int (own_v4_362 x0 x1 x2 x3 t0 t1 t2 t3 t4 t5), .int (own_v4_363 x0 x1 x2 x3 t0 t1 t2 t3 t4 t5), .int (own_v4_364 x0 x1 x2 x3 t0 t1 t2 t3 t4 t5)] := by rw [own_set6 (own_S4_0 hS)] at A988; exact A988
    have A989 := A977.other W987 ne618
    have A990 := A978.other W987 ne619
    have A991 := A979.other W987 (Ne.symm ne695)
    have A992 := A980.other W987 (Ne.symm ne944)
    have Z993 : n0 ≤ h986.size := W987.size ▸ Z981
    have N994 := Fr.snoc X984 N982 Z620
    refine own_iload X984 hx (hb hby at_363) (q := 365) rfl rfl ?_
    refine own_iconst X984 hx (v := (5 : Int32)) (hb hby at_365) (q := 366) rfl rfl ?_
    refine own_icmpP X984 hx (hb hby at_366) (cd := .lt) (x := (4 : Int32)) (y := (5 : Int32)) (pt := 386) (q := 369) (by decide) (by decide) rfl rfl (fun _ => ?_) (fun h => False.elim (h ((by decide) : (4 : Int32) < (5 : Int32))))
    refine own_iload X984 hx (hb hby at_386) (q := 388) rfl rfl ?_
    refine own_bipush X984 hx (v := (6 : Int32)) (hb hby at_388) (q := 390) rfl rfl ?_
    refine own_icmpP X984 hx (hb hby at_390) (cd := .lt) (x := (4 : Int32)) (y := (6 : Int32)) (pt := 407) (q := 393) (by decide) (by decide) rfl rfl (fun _ => ?_) (fun h => False.elim (h ((by decide) : (4 : Int32) < (6 : Int32))))
    refine own_aload X984 hx (hb hby at_407) (q := 409) rfl rfl rfl ?_
    refine own_aload X984 hx (hb hby at_409) (q := 411) rfl rfl rfl ?_
    refine own_callS X984 hx hZ hown (hw _ (List.mem_of_getElem? (i := 6) rfl)) (hw _ (List.mem_of_getElem? (i := 7) rfl)) (hw _ (List.mem_of_getElem? (i := 8) rfl)) (hw _ (List.mem_of_getElem? (i := 9) rfl)) (by decide) (rm2_4 l Z a0 hw [] a546 a934 t0 t1 t2 t3 t4 t5 x0 x1 x2 x3 h986 n0 A990 A992 Z552 (Ne.symm ne943) hS) own_pd1 rfl e985 (by rw [hml]; rfl) (argsL := [.ref a546, .ref a934]) (st := []) rfl (W := 0) (Nat.le_of_eq rfl) (by decide) (by decide) (by decide) (by decide) (hb hby at_411) (q := 414) rfl (fun v1001 T1002 L1003 X1004 hQ1005 => ?_)
    obtain ⟨rfl, N1006, K1007, A1009, A1010⟩ := hQ1005
    have A1011 := A989.keep K1007 (ninS ne551 nin0)
    have A1012 := A991.keep K1007 (ninS (Ne.symm ne694) nin0)
    have A1013 := A988.keep K1007 (ninS (Ne.symm ne619) nin0)
    have Z1014 : n0 ≤ T1002.heap.size := Nat.le_trans Z993 K1007.1
    have N1008 := Fr.app N994 N1006
    show own_Go p e below (own_E s 24 128 (own_Q0 n0)) (T1002.setTop (mkF m 414 #[.val (.int p1), .val (.long q2), .second, .val (.long q3), .second, .val (.long q4), .second, .val (.int (((p1 &&& (2147483647 : Int32)) % (63 : Int32)) + (1 : Int32))), .val (.ref a488), .val (.ref a546), .val (.ref a612), .val (.ref a686), .val (.int (4 : Int32)), .val (.ref a934), .unset] []))
    refine own_aload X1004 hx (hb hby at_414) (q := 416) rfl rfl rfl ?_
    refine own_iconst X1004 hx (v := (0 : Int32)) (hb hby at_416) (q := 417) rfl rfl ?_
    refine own_iaload X1004 hx hZ (i := 0) (v := .int (own_v4_107 x0 x1 x2 x3 t0 t1 t2 t3 t4 t5)) rfl A1009 (by decide) (by decide) rfl (hb hby at_417) (q := 418) rfl ?_
    refine own_aload X1004 hx (hb hby at_418) (q := 420) rfl rfl rfl ?_
    refine own_iconst X1004 hx (v := (0 : Int32)) (hb hby at_420) (q := 421) rfl rfl ?_
    refine own_iaload X1004 hx hZ (i := 0) (v := .int (own_v4_359 x0 x1 x2 x3 t0 t1 t2 t3 t4 t5)) rfl A1013 (by decide) (by decide) rfl (hb hby at_421) (q := 422) rfl ?_
    refine own_icmpM X1004 hx (hb hby at_422) (cd := .ne) (x := own_v4_107 x0 x1 x2 x3 t0 t1 t2 t3 t4 t5) (y := own_v4_359 x0 x1 x2 x3 t0 t1 t2 t3 t4 t5) (pt := 484) (q := 425) (by decide) (by decide) rfl rfl (fun h => False.elim (h ((own_eq_4_422 hS) : (own_v4_107 x0 x1 x2 x3 t0 t1 t2 t3 t4 t5) = (own_v4_359 x0 x1 x2 x3 t0 t1 t2 t3 t4 t5)))) (fun _ => ?_)
    refine own_aload X1004 hx (hb hby at_425) (q := 427) rfl rfl rfl ?_
    refine own_iconst X1004 hx (v := (1 : Int32)) (hb hby at_427) (q := 428) rfl rfl ?_
    refine own_iaload X1004 hx hZ (i := 1) (v := .int (own_v4_108 x0 x1 x2 x3 t0 t1 t2 t3 t4 t5)) rfl A1009 (by decide) (by decide) rfl (hb hby at_428) (q := 429) rfl ?_
    refine own_aload X1004 hx (hb hby at_429) (q := 431) rfl rfl rfl ?_
    refine own_iconst X1004 hx (v := (1 : Int32)) (hb hby at_431) (q := 432) rfl rfl ?_
    refine own_iaload X1004 hx hZ (i := 1) (v := .int (own_v4_360 x0 x1 x2 x3 t0 t1 t2 t3 t4 t5)) rfl A1013 (by decide) (by decide) rfl (hb hby at_432) (q := 433) rfl ?_
    refine own_icmpM X1004 hx (hb hby at_433) (cd := .ne) (x := own_v4_108 x0 x1 x2 x3 t0 t1 t2 t3 t4 t5) (y := own_v4_360 x0 x1 x2 x3 t0 t1 t2 t3 t4 t5) (pt := 484) (q := 436) (by decide) (by decide) rfl rfl (fun h => False.elim (h ((own_eq_4_433 hS) : (own_v4_108 x0 x1 x2 x3 t0 t1 t2 t3 t4 t5) = (own_v4_360 x0 x1 x2 x3 t0 t1 t2 t3 t4 t5)))) (fun _ => ?_)
    refine own_aload X1004 hx (hb hby at_436) (q := 438) rfl rfl rfl ?_
    refine own_iconst X1004 hx (v := (2 : Int32)) (hb hby at_438) (q := 439) rfl rfl ?_
    refine own_iaload X1004 hx hZ (i := 2) (v := .int (own_v4_109 x0 x1 x2 x3 t0 t1 t2 t3 t4 t5)) rfl A1009 (by decide) (by decide) rfl (hb hby at_439) (q := 440) rfl ?_
    refine own_aload X1004 hx (hb hby at_440) (q := 442) rfl rfl rfl ?_
    refine own_iconst X1004 hx (v := (2 : Int32)) (hb hby at_442) (q := 443) rfl rfl ?_
    refine own_iaload X1004 hx hZ (i := 2) (v := .int (own_v4_361 x0 x1 x2 x3 t0 t1 t2 t3 t4 t5)) rfl A1013 (by decide) (by decide) rfl (hb hby at_443) (q := 444) rfl ?_
    refine own_icmpM X1004 hx (hb hby at_444) (cd := .ne) (x := own_v4_109 x0 x1 x2 x3 t0 t1 t2 t3 t4 t5) (y := own_v4_361 x0 x1 x2 x3 t0 t1 t2 t3 t4 t5) (pt := 484) (q := 447) (by decide) (by decide) rfl rfl (fun h => False.elim (h ((own_eq_4_444 hS) : (own_v4_109 x0 x1 x2 x3 t0 t1 t2 t3 t4 t5) = (own_v4_361 x0 x1 x2 x3 t0 t1 t2 t3 t4 t5)))) (fun _ => ?_)
    refine own_aload X1004 hx (hb hby at_447) (q := 449) rfl rfl rfl ?_
    refine own_iconst X1004 hx (v := (3 : Int32)) (hb hby at_449) (q := 450) rfl rfl ?_
    refine own_iaload X1004 hx hZ (i := 3) (v := .int (own_v4_110 x0 x1 x2 x3 t0 t1 t2 t3 t4 t5)) rfl A1009 (by decide) (by decide) rfl (hb hby at_450) (q := 451) rfl ?_
    refine own_aload X1004 hx (hb hby at_451) (q := 453) rfl rfl rfl ?_
    refine own_iconst X1004 hx (v := (3 : Int32)) (hb hby at_453) (q := 454) rfl rfl ?_
    refine own_iaload X1004 hx hZ (i := 3) (v := .int (own_v4_362 x0 x1 x2 x3 t0 t1 t2 t3 t4 t5)) rfl A1013 (by decide) (by decide) rfl (hb hby at_454) (q := 455) rfl ?_
    refine own_icmpM X1004 hx (hb hby at_455) (cd := .ne) (x := own_v4_110 x0 x1 x2 x3 t0 t1 t2 t3 t4 t5) (y := own_v4_362 x0 x1 x2 x3 t0 t1 t2 t3 t4 t5) (pt := 484) (q := 458) (by decide) (by decide) rfl rfl (fun h => False.elim (h ((own_eq_4_455 hS) : (own_v4_110 x0 x1 x2 x3 t0 t1 t2 t3 t4 t5) = (own_v4_362 x0 x1 x2 x3 t0 t1 t2 t3 t4 t5)))) (fun _ => ?_)
    refine own_aload X1004 hx (hb hby at_458) (q := 460) rfl rfl rfl ?_
    refine own_iconst X1004 hx (v := (4 : Int32)) (hb hby at_460) (q := 461) rfl rfl ?_
    refine own_iaload X1004 hx hZ (i := 4) (v := .int (own_v4_111 x0 x1 x2 x3 t0 t1 t2 t3 t4 t5)) rfl A1009 (by decide) (by decide) rfl (hb hby at_461) (q := 462) rfl ?_
    refine own_aload X1004 hx (hb hby at_462) (q := 464) rfl rfl rfl ?_
    refine own_iconst X1004 hx (v := (4 : Int32)) (hb hby at_464) (q := 465) rfl rfl ?_
    refine own_iaload X1004 hx hZ (i := 4) (v := .int (own_v4_363 x0 x1 x2 x3 t0 t1 t2 t3 t4 t5)) rfl A1013 (by decide) (by decide) rfl (hb hby at_465) (q := 466) rfl ?_
    refine own_icmpM X1004 hx (hb hby at_466) (cd := .ne) (x := own_v4_111 x0 x1 x2 x3 t0 t1 t2 t3 t4 t5) (y := own_v4_363 x0 x1 x2 x3 t0 t1 t2 t3 t4 t5) (pt := 484) (q := 469) (by decide) (by decide) rfl rfl (fun h => False.elim (h ((own_eq_4_466 hS) : (own_v4_111 x0 x1 x2 x3 t0 t1 t2 t3 t4 t5) = (own_v4_363 x0 x1 x2 x3 t0 t1 t2 t3 t4 t5)))) (fun _ => ?_)
    refine own_aload X1004 hx (hb hby at_469) (q := 471) rfl rfl rfl ?_
    refine own_iconst X1004 hx (v := (5 : Int32)) (hb hby at_471) (q := 472) rfl rfl ?_
    refine own_iaload X1004 hx hZ (i := 5) (v := .int (own_v4_112 x0 x1 x2 x3 t0 t1 t2 t3 t4 t5)) rfl A1009 (by decide) (by decide) rfl (hb hby at_472) (q := 473) rfl ?_
    refine own_aload X1004 hx (hb hby at_473) (q := 475) rfl rfl rfl ?_
    refine own_iconst X1004 hx (v := (5 : Int32)) (hb hby at_475) (q := 476) rfl rfl ?_
    refine own_iaload X1004 hx hZ (i := 5) (v := .int (own_v4_364 x0 x1 x2 x3 t0 t1 t2 t3 t4 t5)) rfl A1013 (by decide) (by decide) rfl (hb hby at_476) (q := 477) rfl ?_
    refine own_icmpM X1004 hx (hb hby at_477) (cd := .ne) (x := own_v4_112 x0 x1 x2 x3 t0 t1 t2 t3 t4 t5) (y := own_v4_364 x0 x1 x2 x3 t0 t1 t2 t3 t4 t5) (pt := 484) (q := 480) (by decide) (by decide) rfl rfl (fun h => False.elim (h ((own_eq_4_477 hS) : (own_v4_112 x0 x1 x2 x3 t0 t1 t2 t3 t4 t5) = (own_v4_364 x0 x1 x2 x3 t0 t1 t2 t3 t4 t5)))) (fun _ => ?_)
    refine own_iconst X1004 hx (v := (1 : Int32)) (hb hby at_480) (q := 481) rfl rfl ?_
    refine own_goto X1004 hx (hb hby at_481) (q := 485) (by decide) (by decide) ?_
    refine own_istore (L' := #[.val (.int p1), .val (.long q2), .second, .val (.long q3), .second, .val (.long q4), .second, .val (.int (((p1 &&& (2147483647 : Int32)) % (63 : Int32)) + (1 : Int32))), .val (.ref a488), .val (.ref a546), .val (.ref a612), .val (.ref a686), .val (.int (4 : Int32)), .val (.ref a934), .val (.int (1 : Int32))]) X1004 hx (hb hby at_485) (q := 487) rfl rfl ?_
    refine own_iload X1004 hx (hb hby at_487) (q := 489) rfl rfl ?_
    refine own_if0P X1004 hx (hb hby at_489) (cd := .eq) (x := (1 : Int32)) (pt := 508) (q := 492) (by decide) (by decide) rfl rfl (fun h => False.elim (((by decide) : ¬ ((1 : Int32) = (0 : Int32))) h)) (fun _ => ?_)
    refine own_aload X1004 hx (hb hby at_492) (q := 494) rfl rfl rfl ?_
    refine own_aload X1004 hx (hb hby at_494) (q := 496) rfl rfl rfl ?_
    refine own_iload X1004 hx (hb hby at_496) (q := 498) rfl rfl ?_
    refine own_callSP X1004 hx hZ hown (hw _ (List.mem_of_getElem? (i := 10) rfl)) (hw _ (List.mem_of_getElem? (i := 11) rfl)) (hw _ (List.mem_of_getElem? (i := 4) rfl)) (hw _ (List.mem_of_getElem? (i := 12) rfl)) (by decide) (rm3_4 l Z a0 hw [] a934 a686 x0 x1 x2 x3 T1002.heap A1010 A1012) own_pd2 rfl rfl (by rw [hml]; rfl) (argsL := [.ref a934, .ref a686, .int (4 : Int32)]) (st := []) rfl (W := 0) (Nat.le_of_eq rfl) (by decide) (by decide) (by decide) (by decide) (hb hby at_498) (q := 501) rfl (fun T1015 X1016 e1017 => ?_)
    rw [show (own_f3_4 x0 x1 x2 x3 : Int32) = (1 : Int32) from rfl]
    refine own_if0P X1016 hx (hb hby at_501) (cd := .eq) (x := (1 : Int32)) (pt := 508) (q := 504) (by decide) (by decide) rfl rfl (fun h => False.elim (((by decide) : ¬ ((1 : Int32) = (0 : Int32))) h)) (fun _ => ?_)
    refine own_iconst X1016 hx (v := (1 : Int32)) (hb hby at_504) (q := 505) rfl rfl ?_
    refine own_goto X1016 hx (hb hby at_505) (q := 509) (by decide) (by decide) ?_
    refine own_retN X1016 hx hlk (t := .boolean) (by simp) Bd.returns (hb hby at_509) ?_ (by decide) (by decide)
    exact ⟨rfl, N1008⟩
  have J5 : ∀ (x0 x1 x2 x3 x4 t0 t1 t2 t3 t4 t5 : Int32) (Tj : State) (hj : Heap) (lj : List Loc), Stand p l e room_1 s m #[.int p1, .long q2, .long q3, .long q4] below meth c Tj lj 4 24 → Tj.heap = hj → own_A Z hj a488 .int [.int t0, .int t1, .int t2, .int t3, .int t4, .int t5] → own_A Z hj a546 .int [.int t0, .int t1, .int t2, .int t3, .int t4, .int t5] → own_A Z hj a612 .int [.int t0, .int t1, .int t2, .int t3, .int t4, .int t5] → own_A Z hj a686 .int [.int x0, .int x1, .int x2, .int x3, .int x4, .int (0 : Int32)] → n0 ≤ hj.size → Fr n0 lj → own_S5 x0 x1 x2 x3 x4 → own_Go p e below (own_E s 24 128 (own_Q0 n0)) (Tj.setTop (mkF m 262 #[.val (.int p1), .val (.long q2), .second, .val (.long q3), .second, .val (.long q4), .second, .val (.int (((p1 &&& (2147483647 : Int32)) % (63 : Int32)) + (1 : Int32))), .val (.ref a488), .val (.ref a546), .val (.ref a612), .val (.ref a686), .val (.int (5 : Int32)), .unset, .unset] [])) := by
    intro x0 x1 x2 x3 x4 t0 t1 t2 t3 t4 t5 Tj hj lj Xj ej Aj0 Aj1 Aj2 Aj3 Zj Nj hS
    refine own_aload Xj hx (hb hby at_262) (q := 264) rfl rfl rfl ?_
    refine own_iload Xj hx (hb hby at_264) (q := 266) rfl rfl ?_
    refine own_callS Xj hx hZ hown (hw _ (List.mem_of_getElem? (i := 2) rfl)) (hw _ (List.mem_of_getElem? (i := 3) rfl)) (hw _ (List.mem_of_getElem? (i := 4) rfl)) (hw _ (List.mem_of_getElem? (i := 5) rfl)) (by decide) (rm1_5 l Z a0 hw [] a686 x0 x1 x2 x3 x4 hj n0 Zj Aj3 ) own_pd0 rfl ej (by rw [hml]; rfl) (argsL := [.ref a686, .int (5 : Int32)]) (st := []) rfl (W := 0) (Nat.le_of_eq rfl) (by decide) (by decide) (by decide) (by decide) (hb hby at_266) (q := 269) rfl (fun v1024 T1025 L1026 X1027 hQ1028 => ?_)
    obtain ⟨a1032, rfl, N1029, K1030, O1033, A1034⟩ := hQ1028
    have A1035 := Aj0.keep K1030 nin0
    have A1036 := Aj1.keep K1030 nin0
    have A1037 := Aj2.keep K1030 nin0
    have A1038 := Aj3.keep K1030 nin0
    have Z1039 : n0 ≤ T1025.heap.size := Nat.le_trans Zj K1030.1
    have N1031 := Fr.app Nj N1029
    have ne1040 : a488 ≠ a1032 := Nat.ne_of_lt (Nat.lt_of_lt_of_le Aj0.lt O1033)
    have ne1041 : a546 ≠ a1032 := Nat.ne_of_lt (Nat.lt_of_lt_of_le Aj1.lt O1033)
    have ne1042 : a612 ≠ a1032 := Nat.ne_of_lt (Nat.lt_of_lt_of_le Aj2.lt O1033)
    have ne1043 : a686 ≠ a1032 := Nat.ne_of_lt (Nat.lt_of_lt_of_le Aj3.lt O1033)
    have Z1044 : n0 ≤ a1032 := Nat.le_trans Zj O1033
    show own_Go p e below (own_E s 24 128 (own_Q0 n0)) (T1025.setTop (mkF m 269 #[.val (.int p1), .val (.long q2), .second, .val (.long q3), .second, .val (.long q4), .second, .val (.int (((p1 &&& (2147483647 : Int32)) % (63 : Int32)) + (1 : Int32))), .val (.ref a488), .val (.ref a546), .val (.ref a612), .val (.ref a686), .val (.int (5 : Int32)), .unset, .unset] [.ref a1032]))
    refine own_astore (L' := #[.val (.int p1), .val (.long q2), .second, .val (.long q3), .second, .val (.long q4), .second, .val (.int (((p1 &&& (2147483647 : Int32)) % (63 : Int32)) + (1 : Int32))), .val (.ref a488), .val (.ref a546), .val (.ref a612), .val (.ref a686), .val (.int (5 : Int32)), .val (.ref a1032), .unset]) X1027 hx (hb hby at_269) (q := 271) rfl rfl rfl ?_
    refine own_iload X1027 hx (hb hby at_271) (q := 273) rfl rfl ?_
    refine own_iconst X1027 hx (v := (1 : Int32)) (hb hby at_273) (q := 274) rfl rfl ?_
    refine own_icmpP X1027 hx (hb hby at_274) (cd := .lt) (x := (5 : Int32)) (y := (1 : Int32)) (pt := 294) (q := 277) (by decide) (by decide) rfl rfl (fun h => False.elim (((by decide) : ¬ ((5 : Int32) < (1 : Int32))) h)) (fun _ => ?_)
    refine own_aload X1027 hx (hb hby at_277) (q := 279) rfl rfl rfl ?_
    refine own_aload X1027 hx (hb hby at_279) (q := 281) rfl rfl rfl ?_
    refine own_iconst X1027 hx (v := (1 : Int32)) (hb hby at_281) (q := 282) rfl rfl ?_
    refine own_iload X1027 hx (hb hby at_282) (q := 284) rfl rfl ?_
    refine own_irem X1027 hx (hb hby at_284) (q := 285) rfl (by decide) ?_
    rw [show ((1 : Int32) % (5 : Int32) : Int32) = (1 : Int32) from by decide]
    refine own_iaload X1027 hx hZ (i := 1) (v := .int x1) rfl A1038 (by decide) (by decide) rfl (hb hby at_285) (q := 286) rfl ?_
    refine own_aload X1027 hx (hb hby at_286) (q := 288) rfl rfl rfl ?_
    refine own_aload X1027 hx (hb hby at_288) (q := 290) rfl rfl rfl ?_
    refine own_iconst X1027 hx (v := (0 : Int32)) (hb hby at_290) (q := 291) rfl rfl ?_
    refine own_iaload X1027 hx hZ (i := 0) (v := .int x0) rfl A1038 (by decide) (by decide) rfl (hb hby at_291) (q := 292) rfl ?_
    refine own_iaload X1027 hx hZ (i := (x0).toNatClampNeg) (v := .int (own_v5_365 x0 x1 x2 x3 x4 t0 t1 t2 t3 t4 t5)) rfl A1035 (own_nn6 (own_S5_0 hS)) rfl (own_cat6V (own_S5_0 hS)) (hb hby at_292) (q := 293) rfl ?_
    refine own_iastore X1027 hx hZ (i := (x1).toNatClampNeg) rfl A1037 (own_nn6 (own_S5_1 hS)) rfl (own_lt6 (own_S5_1 hS)) (hb hby at_293) (q := 294) rfl (fun T1045 h1048 X1046 e1047 W1049 A1050 => ?_)
    replace A1050 : own_A Z h1048 a612 .int [.int (own_v5_366 x0 x1 x2 x3 x4 t0 t1 t2 t3 t4 t5), .int (own_v5_367 x0 x1 x2 x3 x4 t0 t1 t2 t3 t4 t5), .int (own_v5_368 x0 x1 x2 x3 x4 t0 t1 t2 t3 t4 t5), .int (own_v5_369 x0 x1 x2 x3 x4 t0 t1 t2 t3 t4 t5), .int (own_v5_370 x0 x1 x2 x3 x4 t0 t1 t2 t3 t4 t5), .int (own_v5_371 x0 x1 x2 x3 x4 t0 t1 t2 t3 t4 t5)] := by rw [own_set6 (own_S5_1 hS)] at A1050; exact A1050
    have A1051 := A1035.other W1049 ne618
    have A1052 := A1036.other W1049 ne619
    have A1053 := A1038.other W1049 (Ne.symm ne695)
    have A1054 := A1034.other W1049 (Ne.symm ne1042)
    have Z1055 : n0 ≤ h1048.size := W1049.size ▸ Z1039
    have N1056 := Fr.snoc X1046 N1031 Z620
    refine own_iload X1046 hx (hb hby at_294) (q := 296) rfl rfl ?_
    refine own_iconst X1046 hx (v := (2 : Int32)) (hb hby at_296) (q := 297) rfl rfl ?_
    refine own_icmpP X1046 hx (hb hby at_297) (cd := .lt) (x := (5 : Int32)) (y := (2 : Int32)) (pt := 317) (q := 300) (by decide) (by decide) rfl rfl (fun h => False.elim (((by decide) : ¬ ((5 : Int32) < (2 : Int32))) h)) (fun _ => ?_)
    refine own_aload X1046 hx (hb hby at_300) (q := 302) rfl rfl rfl ?_
    refine own_aload X1046 hx (hb hby at_302) (q := 304) rfl rfl rfl ?_
    refine own_iconst X1046 hx (v := (2 : Int32)) (hb hby at_304) (q := 305) rfl rfl ?_
    refine own_iload X1046 hx (hb hby at_305) (q := 307) rfl rfl ?_
    refine own_irem X1046 hx (hb hby at_307) (q := 308) rfl (by decide) ?_
    rw [show ((2 : Int32) % (5 : Int32) : Int32) = (2 : Int32) from by decide]
    refine own_iaload X1046 hx hZ (i := 2) (v := .int x2) e1047 A1053 (by decide) (by decide) rfl (hb hby at_308) (q := 309) rfl ?_
    refine own_aload X1046 hx (hb hby at_309) (q := 311) rfl rfl rfl ?_
    refine own_aload X1046 hx (hb hby at_311) (q := 313) rfl rfl rfl ?_
    refine own_iconst X1046 hx (v := (1 : Int32)) (hb hby at_313) (q := 314) rfl rfl ?_
    refine own_iaload X1046 hx hZ (i := 1) (v := .int x1) e1047 A1053 (by decide) (by decide) rfl (hb hby at_314) (q := 315) rfl ?_
    refine own_iaload X1046 hx hZ (i := (x1).toNatClampNeg) (v := .int (own_v5_372 x0 x1 x2 x3 x4 t0 t1 t2 t3 t4 t5)) e1047 A1051 (own_nn6 (own_S5_1 hS)) rfl (own_cat6V (own_S5_1 hS)) (hb hby at_315) (q := 316) rfl ?_
    refine own_iastore X1046 hx hZ (i := (x2).toNatClampNeg) e1047 A1050 (own_nn6 (own_S5_2 hS)) rfl (own_lt6 (own_S5_2 hS)) (hb hby at_316) (q := 317) rfl (fun T1057 h1060 X1058 e1059 W1061 A1062 => ?_)
    replace A1062 : own_A Z h1060 a612 .int [.int (own_v5_373 x0 x1 x2 x3 x4 t0 t1 t2 t3 t4 t5), .int (own_v5_374 x0 x1 x2 x3 x4 t0 t1 t2 t3 t4 t5), .int (own_v5_375 x0 x1 x2 x3 x4 t0 t1 t2 t3 t4 t5), .int (own_v5_376 x0 x1 x2 x3 x4 t0 t1 t2 t3 t4 t5), .int (own_v5_377 x0 x1 x2 x3 x4 t0 t1 t2 t3 t4 t5), .int (own_v5_378 x0 x1 x2 x3 x4 t0 t1 t2 t3 t4 t5)] := by rw [own_set6 (own_S5_2 hS)] at A1062; exact A1062
    have A1063 := A1051.other W1061 ne618
    have A1064 := A1052.other W1061 ne619
    have A1065 := A1053.other W1061 (Ne.symm ne695)
    have A1066 := A1054.other W1061 (Ne.symm ne1042)
    have Z1067 : n0 ≤ h1060.size := W1061.size ▸ Z1055
    have N1068 := Fr.snoc X1058 N1056 Z620
    refine own_iload X1058 hx (hb hby at_317) (q := 319) rfl rfl ?_
    refine own_iconst X1058 hx (v := (3 : Int32)) (hb hby at_319) (q := 320) rfl rfl ?_
    refine own_icmpP X1058 hx (hb hby at_320) (cd := .lt) (x := (5 : Int32)) (y := (3 : Int32)) (pt := 340) (q := 323) (by decide) (by decide) rfl rfl (fun h => False.elim (((by decide) : ¬ ((5 : Int32) < (3 : Int32))) h)) (fun _ => ?_)
    refine own_aload X1058 hx (hb hby at_323) (q := 325) rfl rfl rfl ?_
    refine own_aload X1058 hx (hb hby at_325) (q := 327) rfl rfl rfl ?_
    refine own_iconst X1058 hx (v := (3 : Int32)) (hb hby at_327) (q := 328) rfl rfl ?_
    refine own_iload X1058 hx (hb hby at_328) (q := 330) rfl rfl ?_
    refine own_irem X1058 hx (hb hby at_330) (q := 331) rfl (by decide) ?_
    rw [show ((3 : Int32) % (5 : Int32) : Int32) = (3 : Int32) from by decide]
    refine own_iaload X1058 hx hZ (i := 3) (v := .int x3) e1059 A1065 (by decide) (by decide) rfl (hb hby at_331) (q := 332) rfl ?_
    refine own_aload X1058 hx (hb hby at_332) (q := 334) rfl rfl rfl ?_
    refine own_aload X1058 hx (hb hby at_334) (q := 336) rfl rfl rfl ?_
    refine own_iconst X1058 hx (v := (2 : Int32)) (hb hby at_336) (q := 337) rfl rfl ?_
    refine own_iaload X1058 hx hZ (i := 2) (v := .int x2) e1059 A1065 (by decide) (by decide) rfl (hb hby at_337) (q := 338) rfl ?_
    refine own_iaload X1058 hx hZ (i := (x2).toNatClampNeg) (v := .int (own_v5_379 x0 x1 x2 x3 x4 t0 t1 t2 t3 t4 t5)) e1059 A1063 (own_nn6 (own_S5_2 hS)) rfl (own_cat6V (own_S5_2 hS)) (hb hby at_338) (q := 339) rfl ?_
    refine own_iastore X1058 hx hZ (i := (x3).toNatClampNeg) e1059 A1062 (own_nn6 (own_S5_3 hS)) rfl (own_lt6 (own_S5_3 hS)) (hb hby at_339) (q := 340) rfl (fun T1069 h1072 X1070 e1071 W1073 A1074 => ?_)
    replace A1074 : own_A Z h1072 a612 .int [.int (own_v5_380 x0 x1 x2 x3 x4 t0 t1 t2 t3 t4 t5), .int (own_v5_381 x0 x1 x2 x3 x4 t0 t1 t2 t3 t4 t5), .int (own_v5_382 x0 x1 x2 x3 x4 t0 t1 t2 t3 t4 t5), .int (own_v5_383 x0 x1 x2 x3 x4 t0 t1 t2 t3 t4 t5), .int (own_v5_384 x0 x1 x2 x3 x4 t0 t1 t2 t3 t4 t5), .int (own_v5_385 x0 x1 x2 x3 x4 t0 t1 t2 t3 t4 t5)] := by rw [own_set6 (own_S5_3 hS)] at A1074; exact A1074
    have A1075 := A1063.other W1073 ne618
    have A1076 := A1064.other W1073 ne619
    have A1077 := A1065.other W1073 (Ne.symm ne695)
    have A1078 := A1066.other W1073 (Ne.symm ne1042)
    have Z1079 : n0 ≤ h1072.size := W1073.size ▸ Z1067
    have N1080 := Fr.snoc X1070 N1068 Z620
    refine own_iload X1070 hx (hb hby at_340) (q := 342) rfl rfl ?_
    refine own_iconst X1070 hx (v := (4 : Int32)) (hb hby at_342) (q := 343) rfl rfl ?_
    refine own_icmpP X1070 hx (hb hby at_343) (cd := .lt) (x := (5 : Int32)) (y := (4 : Int32)) (pt := 363) (q := 346) (by decide) (by decide) rfl rfl (fun h => False.elim (((by decide) : ¬ ((5 : Int32) < (4 : Int32))) h)) (fun _ => ?_)
    refine own_aload X1070 hx (hb hby at_346) (q := 348) rfl rfl rfl ?_
    refine own_aload X1070 hx (hb hby at_348) (q := 350) rfl rfl rfl ?_
    refine own_iconst X1070 hx (v := (4 : Int32)) (hb hby at_350) (q := 351) rfl rfl ?_
    refine own_iload X1070 hx (hb hby at_351) (q := 353) rfl rfl ?_
    refine own_irem X1070 hx (hb hby at_353) (q := 354) rfl (by decide) ?_
    rw [show ((4 : Int32) % (5 : Int32) : Int32) = (4 : Int32) from by decide]
    refine own_iaload X1070 hx hZ (i := 4) (v := .int x4) e1071 A1077 (by decide) (by decide) rfl (hb hby at_354) (q := 355) rfl ?_
    refine own_aload X1070 hx (hb hby at_355) (q := 357) rfl rfl rfl ?_
    refine own_aload X1070 hx (hb hby at_357) (q := 359) rfl rfl rfl ?_
    refine own_iconst X1070 hx (v := (3 : Int32)) (hb hby at_359) (q := 360) rfl rfl ?_
    refine own_iaload X1070 hx hZ (i := 3) (v := .int x3) e1071 A1077 (by decide) (by decide) rfl (hb hby at_360) (q := 361) rfl ?_
    refine own_iaload X1070 hx hZ (i := (x3).toNatClampNeg) (v := .int (own_v5_386 x0 x1 x2 x3 x4 t0 t1 t2 t3 t4 t5)) e1071 A1075 (own_nn6 (own_S5_3 hS)) rfl (own_cat6V (own_S5_3 hS)) (hb hby at_361) (q := 362) rfl ?_
    refine own_iastore X1070 hx hZ (i := (x4).toNatClampNeg) e1071 A1074 (own_nn6 (own_S5_4 hS)) rfl (own_lt6 (own_S5_4 hS)) (hb hby at_362) (q := 363) rfl (fun T1081 h1084 X1082 e1083 W1085 A1086 => ?_)
    replace A1086 : own_A Z h1084 a612 .int [.int (own_v5_387 x0 x1 x2 x3 x4 t0 t1 t2 t3 t4 t5), .int (own_v5_388 x0 x1 x2 x3 x4 t0 t1 t2 t3 t4 t5), .int (own_v5_389 x0 x1 x2 x3 x4 t0 t1 t2 t3 t4 t5), .int (own_v5_390 x0 x1 x2 x3 x4 t0 t1 t2 t3 t4 t5), .int (own_v5_391 x0 x1 x2 x3 x4 t0 t1 t2 t3 t4 t5), .int (own_v5_392 x0 x1 x2 x3 x4 t0 t1 t2 t3 t4 t5)] := by rw [own_set6 (own_S5_4 hS)] at A1086; exact A1086
    have A1087 := A1075.other W1085 ne618
    have A1088 := A1076.other W1085 ne619
    have A1089 := A1077.other W1085 (Ne.symm ne695)
    have A1090 := A1078.other W1085 (Ne.symm ne1042)
    have Z1091 : n0 ≤ h1084.size := W1085.size ▸ Z1079
    have N1092 := Fr.snoc X1082 N1080 Z620
    refine own_iload X1082 hx (hb hby at_363) (q := 365) rfl rfl ?_
    refine own_iconst X1082 hx (v := (5 : Int32)) (hb hby at_365) (q := 366) rfl rfl ?_
    refine own_icmpP X1082 hx (hb hby at_366) (cd := .lt) (x := (5 : Int32)) (y := (5 : Int32)) (pt := 386) (q := 369) (by decide) (by decide) rfl rfl (fun h => False.elim (((by decide) : ¬ ((5 : Int32) < (5 : Int32))) h)) (fun _ => ?_)
    refine own_aload X1082 hx (hb hby at_369) (q := 371) rfl rfl rfl ?_
    refine own_aload X1082 hx (hb hby at_371) (q := 373) rfl rfl rfl ?_
    refine own_iconst X1082 hx (v := (5 : Int32)) (hb hby at_373) (q := 374) rfl rfl ?_
    refine own_iload X1082 hx (hb hby at_374) (q := 376) rfl rfl ?_
    refine own_irem X1082 hx (hb hby at_376) (q := 377) rfl (by decide) ?_
    rw [show ((5 : Int32) % (5 : Int32) : Int32) = (0 : Int32) from by decide]
    refine own_iaload X1082 hx hZ (i := 0) (v := .int x0) e1083 A1089 (by decide) (by decide) rfl (hb hby at_377) (q := 378) rfl ?_
    refine own_aload X1082 hx (hb hby at_378) (q := 380) rfl rfl rfl ?_
    refine own_aload X1082 hx (hb hby at_380) (q := 382) rfl rfl rfl ?_
    refine own_iconst X1082 hx (v := (4 : Int32)) (hb hby at_382) (q := 383) rfl rfl ?_
    refine own_iaload X1082 hx hZ (i := 4) (v := .int x4) e1083 A1089 (by decide) (by decide) rfl (hb hby at_383) (q := 384) rfl ?_
    refine own_iaload X1082 hx hZ (i := (x4).toNatClampNeg) (v := .int (own_v5_393 x0 x1 x2 x3 x4 t0 t1 t2 t3 t4 t5)) e1083 A1087 (own_nn6 (own_S5_4 hS)) rfl (own_cat6V (own_S5_4 hS)) (hb hby at_384) (q := 385) rfl ?_
    refine own_iastore X1082 hx hZ (i := (x0).toNatClampNeg) e1083 A1086 (own_nn6 (own_S5_0 hS)) rfl (own_lt6 (own_S5_0 hS)) (hb hby at_385) (q := 386) rfl (fun T1093 h1096 X1094 e1095 W1097 A1098 => ?_)
    replace A1098 : own_A Z h1096 a612 .int [.int (own_v5_394 x0 x1 x2 x3 x4 t0 t1 t2 t3 t4 t5), .int (own_v5_395 x0 x1 x2 x3 x4 t0 t1 t2 t3 t4 t5), .int (own_v5_396 x0 x1 x2 x3 x4 t0 t1 t2 t3 t4 t5), .int (own_v5_397 x0 x1 x2 x3 x4 t0 t1 t2 t3 t4 t5), .int (own_v5_398 x0 x1 x2 x3 x4 t0 t1 t2 t3 t4 t5), .int (own_v5_399 x0 x1 x2 x3 x4 t0 t1 t2 t3 t4 t5)] := by rw [own_set6 (own_S5_0 hS)] at A1098; exact A1098
    have A1099 := A1087.other W1097 ne618
    have A1100 := A1088.other W1097 ne619
    have A1101 := A1089.other W1097 (Ne.symm ne695)
    have A1102 := A1090.other W1097 (Ne.symm ne1042)
    have Z1103 : n0 ≤ h1096.size := W1097.size ▸ Z1091
    have N1104 := Fr.snoc X1094 N1092 Z620
    refine own_iload X1094 hx (hb hby at_386) (q := 388) rfl rfl ?_
    refine own_bipush X1094 hx (v := (6 : Int32)) (hb hby at_388) (q := 390) rfl rfl ?_
    refine own_icmpP X1094 hx (hb hby at_390) (cd := .lt) (x := (5 : Int32)) (y := (6 : Int32)) (pt := 407) (q := 393) (by decide) (by decide) rfl rfl (fun _ => ?_) (fun h => False.elim (h ((by decide) : (5 : Int32) < (6 : Int32))))
    refine own_aload X1094 hx (hb hby at_407) (q := 409) rfl rfl rfl ?_
    refine own_aload X1094 hx (hb hby at_409) (q := 411) rfl rfl rfl ?_
    refine own_callS X1094 hx hZ hown (hw _ (List.mem_of_getElem? (i := 6) rfl)) (hw _ (List.mem_of_getElem? (i := 7) rfl)) (hw _ (List.mem_of_getElem? (i := 8) rfl)) (hw _ (List.mem_of_getElem? (i := 9) rfl)) (by decide) (rm2_5 l Z a0 hw [] a546 a1032 t0 t1 t2 t3 t4 t5 x0 x1 x2 x3 x4 h1096 n0 A1100 A1102 Z552 (Ne.symm ne1041) hS) own_pd1 rfl e1095 (by rw [hml]; rfl) (argsL := [.ref a546, .ref a1032]) (st := []) rfl (W := 0) (Nat.le_of_eq rfl) (by decide) (by decide) (by decide) (by decide) (hb hby at_411) (q := 414) rfl (fun v1111 T1112 L1113 X1114 hQ1115 => ?_)
    obtain ⟨rfl, N1116, K1117, A1119, A1120⟩ := hQ1115
    have A1121 := A1099.keep K1117 (ninS ne551 nin0)
    have A1122 := A1101.keep K1117 (ninS (Ne.symm ne694) nin0)
    have A1123 := A1098.keep K1117 (ninS (Ne.symm ne619) nin0)
    have Z1124 : n0 ≤ T1112.heap.size := Nat.le_trans Z1103 K1117.1
    have N1118 := Fr.app N1104 N1116
    show own_Go p e below (own_E s 24 128 (own_Q0 n0)) (T1112.setTop (mkF m 414 #[.val (.int p1), .val (.long q2), .second, .val (.long q3), .second, .val (.long q4), .second, .val (.int (((p1 &&& (2147483647 : Int32)) % (63 : Int32)) + (1 : Int32))), .val (.ref a488), .val (.ref a546), .val (.ref a612), .val (.ref a686), .val (.int (5 : Int32)), .val (.ref a1032), .unset] []))
    refine own_aload X1114 hx (hb hby at_414) (q := 416) rfl rfl rfl ?_
    refine own_iconst X1114 hx (v := (0 : Int32)) (hb hby at_416) (q := 417) rfl rfl ?_
    refine own_iaload X1114 hx hZ (i := 0) (v := .int (own_v5_170 x0 x1 x2 x3 x4 t0 t1 t2 t3 t4 t5)) rfl A1119 (by decide) (by decide) rfl (hb hby at_417) (q := 418) rfl ?_
    refine own_aload X1114 hx (hb hby at_418) (q := 420) rfl rfl rfl ?_
    refine own_iconst X1114 hx (v := (0 : Int32)) (hb hby at_420) (q := 421) rfl rfl ?_
    refine own_iaload X1114 hx hZ (i := 0) (v := .int (own_v5_394 x0 x1 x2 x3 x4 t0 t1 t2 t3 t4 t5)) rfl A1123 (by decide) (by decide) rfl (hb hby at_421) (q := 422) rfl ?_
    refine own_icmpM X1114 hx (hb hby at_422) (cd := .ne) (x := own_v5_170 x0 x1 x2 x3 x4 t0 t1 t2 t3 t4 t5) (y := own_v5_394 x0 x1 x2 x3 x4 t0 t1 t2 t3 t4 t5) (pt := 484) (q := 425) (by decide) (by decide) rfl rfl (fun h => False.elim (h ((own_eq_5_422 hS) : (own_v5_170 x0 x1 x2 x3 x4 t0 t1 t2 t3 t4 t5) = (own_v5_394 x0 x1 x2 x3 x4 t0 t1 t2 t3 t4 t5)))) (fun _ => ?_)
    refine own_aload X1114 hx (hb hby at_425) (q := 427) rfl rfl rfl ?_
    refine own_iconst X1114 hx (v := (1 : Int32)) (hb hby at_427) (q := 428) rfl rfl ?_
    refine own_iaload X1114 hx hZ (i := 1) (v := .int (own_v5_171 x0 x1 x2 x3 x4 t0 t1 t2 t3 t4 t5)) rfl A1119 (by decide) (by decide) rfl (hb hby at_428) (q := 429) rfl ?_
    refine own_aload X1114 hx (hb hby at_429) (q := 431) rfl rfl rfl ?_
    refine own_iconst X1114 hx (v := (1 : Int32)) (hb hby at_431) (q := 432) rfl rfl ?_
    refine own_iaload X1114 hx hZ (i := 1) (v := .int (own_v5_395 x0 x1 x2 x3 x4 t0 t1 t2 t3 t4 t5)) rfl A1123 (by decide) (by decide) rfl (hb hby at_432) (q := 433) rfl ?_
    refine own_icmpM X1114 hx (hb hby at_433) (cd := .ne) (x := own_v5_171 x0 x1 x2 x3 x4 t0 t1 t2 t3 t4 t5) (y := own_v5_395 x0 x1 x2 x3 x4 t0 t1 t2 t3 t4 t5) (pt := 484) (q := 436) (by decide) (by decide) rfl rfl (fun h => False.elim (h ((own_eq_5_433 hS) : (own_v5_171 x0 x1 x2 x3 x4 t0 t1 t2 t3 t4 t5) = (own_v5_395 x0 x1 x2 x3 x4 t0 t1 t2 t3 t4 t5)))) (fun _ => ?_)
    refine own_aload X1114 hx (hb hby at_436) (q := 438) rfl rfl rfl ?_
    refine own_iconst X1114 hx (v := (2 : Int32)) (hb hby at_438) (q := 439) rfl rfl ?_
    refine own_iaload X1114 hx hZ (i := 2) (v := .int (own_v5_172 x0 x1 x2 x3 x4 t0 t1 t2 t3 t4 t5)) rfl A1119 (by decide) (by decide) rfl (hb hby at_439) (q := 440) rfl ?_
    refine own_aload X1114 hx (hb hby at_440) (q := 442) rfl rfl rfl ?_
    refine own_iconst X1114 hx (v := (2 : Int32)) (hb hby at_442) (q := 443) rfl rfl ?_
    refine own_iaload X1114 hx hZ (i := 2) (v := .int (own_v5_396 x0 x1 x2 x3 x4 t0 t1 t2 t3 t4 t5)) rfl A1123 (by decide) (by decide) rfl (hb hby at_443) (q := 444) rfl ?_
    refine own_icmpM X1114 hx (hb hby at_444) (cd := .ne) (x := own_v5_172 x0 x1 x2 x3 x4 t0 t1 t2 t3 t4 t5) (y := own_v5_396 x0 x1 x2 x3 x4 t0 t1 t2 t3 t4 t5) (pt := 484) (q := 447) (by decide) (by decide) rfl rfl (fun h => False.elim (h ((own_eq_5_444 hS) : (own_v5_172 x0 x1 x2 x3 x4 t0 t1 t2 t3 t4 t5) = (own_v5_396 x0 x1 x2 x3 x4 t0 t1 t2 t3 t4 t5)))) (fun _ => ?_)
    refine own_aload X1114 hx (hb hby at_447) (q := 449) rfl rfl rfl ?_
    refine own_iconst X1114 hx (v := (3 : Int32)) (hb hby at_449) (q := 450) rfl rfl ?_
    refine own_iaload X1114 hx hZ (i := 3) (v := .int (own_v5_173 x0 x1 x2 x3 x4 t0 t1 t2 t3 t4 t5)) rfl A1119 (by decide) (by decide) rfl (hb hby at_450) (q := 451) rfl ?_
    refine own_aload X1114 hx (hb hby at_451) (q := 453) rfl rfl rfl ?_
    refine own_iconst X1114 hx (v := (3 : Int32)) (hb hby at_453) (q := 454) rfl rfl ?_
    refine own_iaload X1114 hx hZ (i := 3) (v := .int (own_v5_397 x0 x1 x2 x3 x4 t0 t1 t2 t3 t4 t5)) rfl A1123 (by decide) (by decide) rfl (hb hby at_454) (q := 455) rfl ?_
    refine own_icmpM X1114 hx (hb hby at_455) (cd := .ne) (x := own_v5_173 x0 x1 x2 x3 x4 t0 t1 t2 t3 t4 t5) (y := own_v5_397 x0 x1 x2 x3 x4 t0 t1 t2 t3 t4 t5) (pt := 484) (q := 458) (by decide) (by decide) rfl rfl (fun h => False.elim (h ((own_eq_5_455 hS) : (own_v5_173 x0 x1 x2 x3 x4 t0 t1 t2 t3 t4 t5) = (own_v5_397 x0 x1 x2 x3 x4 t0 t1 t2 t3 t4 t5)))) (fun _ => ?_)
    refine own_aload X1114 hx (hb hby at_458) (q := 460) rfl rfl rfl ?_
    refine own_iconst X1114 hx (v := (4 : Int32)) (hb hby at_460) (q := 461) rfl rfl ?_
    refine own_iaload X1114 hx hZ (i := 4) (v := .int (own_v5_174 x0 x1 x2 x3 x4 t0 t1 t2 t3 t4 t5)) rfl A1119 (by decide) (by decide) rfl (hb hby at_461) (q := 462) rfl ?_
    refine own_aload X1114 hx (hb hby at_462) (q := 464) rfl rfl rfl ?_
    refine own_iconst X1114 hx (v := (4 : Int32)) (hb hby at_464) (q := 465) rfl rfl ?_
    refine own_iaload X1114 hx hZ (i := 4) (v := .int (own_v5_398 x0 x1 x2 x3 x4 t0 t1 t2 t3 t4 t5)) rfl A1123 (by decide) (by decide) rfl (hb hby at_465) (q := 466) rfl ?_
    refine own_icmpM X1114 hx (hb hby at_466) (cd := .ne) (x := own_v5_174 x0 x1 x2 x3 x4 t0 t1 t2 t3 t4 t5) (y := own_v5_398 x0 x1 x2 x3 x4 t0 t1 t2 t3 t4 t5) (pt := 484) (q := 469) (by decide) (by decide) rfl rfl (fun h => False.elim (h ((own_eq_5_466 hS) : (own_v5_174 x0 x1 x2 x3 x4 t0 t1 t2 t3 t4 t5) = (own_v5_398 x0 x1 x2 x3 x4 t0 t1 t2 t3 t4 t5)))) (fun _ => ?_)
    refine own_aload X1114 hx (hb hby at_469) (q := 471) rfl rfl rfl ?_
    refine own_iconst X1114 hx (v := (5 : Int32)) (hb hby at_471) (q := 472) rfl rfl ?_
    refine own_iaload X1114 hx hZ (i := 5) (v := .int (own_v5_175 x0 x1 x2 x3 x4 t0 t1 t2 t3 t4 t5)) rfl A1119 (by decide) (by decide) rfl (hb hby at_472) (q := 473) rfl ?_
    refine own_aload X1114 hx (hb hby at_473) (q := 475) rfl rfl rfl ?_
    refine own_iconst X1114 hx (v := (5 : Int32)) (hb hby at_475) (q := 476) rfl rfl ?_
    refine own_iaload X1114 hx hZ (i := 5) (v := .int (own_v5_399 x0 x1 x2 x3 x4 t0 t1 t2 t3 t4 t5)) rfl A1123 (by decide) (by decide) rfl (hb hby at_476) (q := 477) rfl ?_
    refine own_icmpM X1114 hx (hb hby at_477) (cd := .ne) (x := own_v5_175 x0 x1 x2 x3 x4 t0 t1 t2 t3 t4 t5) (y := own_v5_399 x0 x1 x2 x3 x4 t0 t1 t2 t3 t4 t5) (pt := 484) (q := 480) (by decide) (by decide) rfl rfl (fun h => False.elim (h ((own_eq_5_477 hS) : (own_v5_175 x0 x1 x2 x3 x4 t0 t1 t2 t3 t4 t5) = (own_v5_399 x0 x1 x2 x3 x4 t0 t1 t2 t3 t4 t5)))) (fun _ => ?_)
    refine own_iconst X1114 hx (v := (1 : Int32)) (hb hby at_480) (q := 481) rfl rfl ?_
    refine own_goto X1114 hx (hb hby at_481) (q := 485) (by decide) (by decide) ?_
    refine own_istore (L' := #[.val (.int p1), .val (.long q2), .second, .val (.long q3), .second, .val (.long q4), .second, .val (.int (((p1 &&& (2147483647 : Int32)) % (63 : Int32)) + (1 : Int32))), .val (.ref a488), .val (.ref a546), .val (.ref a612), .val (.ref a686), .val (.int (5 : Int32)), .val (.ref a1032), .val (.int (1 : Int32))]) X1114 hx (hb hby at_485) (q := 487) rfl rfl ?_
    refine own_iload X1114 hx (hb hby at_487) (q := 489) rfl rfl ?_
    refine own_if0P X1114 hx (hb hby at_489) (cd := .eq) (x := (1 : Int32)) (pt := 508) (q := 492) (by decide) (by decide) rfl rfl (fun h => False.elim (((by decide) : ¬ ((1 : Int32) = (0 : Int32))) h)) (fun _ => ?_)
    refine own_aload X1114 hx (hb hby at_492) (q := 494) rfl rfl rfl ?_
    refine own_aload X1114 hx (hb hby at_494) (q := 496) rfl rfl rfl ?_
    refine own_iload X1114 hx (hb hby at_496) (q := 498) rfl rfl ?_
    refine own_callSP X1114 hx hZ hown (hw _ (List.mem_of_getElem? (i := 10) rfl)) (hw _ (List.mem_of_getElem? (i := 11) rfl)) (hw _ (List.mem_of_getElem? (i := 4) rfl)) (hw _ (List.mem_of_getElem? (i := 12) rfl)) (by decide) (rm3_5 l Z a0 hw [] a1032 a686 x0 x1 x2 x3 x4 T1112.heap A1120 A1122) own_pd2 rfl rfl (by rw [hml]; rfl) (argsL := [.ref a1032, .ref a686, .int (5 : Int32)]) (st := []) rfl (W := 0) (Nat.le_of_eq rfl) (by decide) (by decide) (by decide) (by decide) (hb hby at_498) (q := 501) rfl (fun T1125 X1126 e1127 => ?_)
    rw [show (own_f3_5 x0 x1 x2 x3 x4 : Int32) = (1 : Int32) from rfl]
    refine own_if0P X1126 hx (hb hby at_501) (cd := .eq) (x := (1 : Int32)) (pt := 508) (q := 504) (by decide) (by decide) rfl rfl (fun h => False.elim (((by decide) : ¬ ((1 : Int32) = (0 : Int32))) h)) (fun _ => ?_)
    refine own_iconst X1126 hx (v := (1 : Int32)) (hb hby at_504) (q := 505) rfl rfl ?_
    refine own_goto X1126 hx (hb hby at_505) (q := 509) (by decide) (by decide) ?_
    refine own_retN X1126 hx hlk (t := .boolean) (by simp) Bd.returns (hb hby at_509) ?_ (by decide) (by decide)
    exact ⟨rfl, N1118⟩
  have J6 : ∀ (x0 x1 x2 x3 x4 x5 t0 t1 t2 t3 t4 t5 : Int32) (Tj : State) (hj : Heap) (lj : List Loc), Stand p l e room_1 s m #[.int p1, .long q2, .long q3, .long q4] below meth c Tj lj 4 24 → Tj.heap = hj → own_A Z hj a488 .int [.int t0, .int t1, .int t2, .int t3, .int t4, .int t5] → own_A Z hj a546 .int [.int t0, .int t1, .int t2, .int t3, .int t4, .int t5] → own_A Z hj a612 .int [.int t0, .int t1, .int t2, .int t3, .int t4, .int t5] → own_A Z hj a686 .int [.int x0, .int x1, .int x2, .int x3, .int x4, .int x5] → n0 ≤ hj.size → Fr n0 lj → own_S6 x0 x1 x2 x3 x4 x5 → own_Go p e below (own_E s 24 128 (own_Q0 n0)) (Tj.setTop (mkF m 262 #[.val (.int p1), .val (.long q2), .second, .val (.long q3), .second, .val (.long q4), .second, .val (.int (((p1 &&& (2147483647 : Int32)) % (63 : Int32)) + (1 : Int32))), .val (.ref a488), .val (.ref a546), .val (.ref a612), .val (.ref a686), .val (.int (6 : Int32)), .unset, .unset] [])) := by
    intro x0 x1 x2 x3 x4 x5 t0 t1 t2 t3 t4 t5 Tj hj lj Xj ej Aj0 Aj1 Aj2 Aj3 Zj Nj hS
    refine own_aload Xj hx (hb hby at_262) (q := 264) rfl rfl rfl ?_
    refine own_iload Xj hx (hb hby at_264) (q := 266) rfl rfl ?_
    refine own_callS Xj hx hZ hown (hw _ (List.mem_of_getElem? (i := 2) rfl)) (hw _ (List.mem_of_getElem? (i := 3) rfl)) (hw _ (List.mem_of_getElem? (i := 4) rfl)) (hw _ (List.mem_of_getElem? (i := 5) rfl)) (by decide) (rm1_6 l Z a0 hw [] a686 x0 x1 x2 x3 x4 x5 hj n0 Zj Aj3 ) own_pd0 rfl ej (by rw [hml]; rfl) (argsL := [.ref a686, .int (6 : Int32)]) (st := []) rfl (W := 0) (Nat.le_of_eq rfl) (by decide) (by decide) (by decide) (by decide) (hb hby at_266) (q := 269) rfl (fun v1134 T1135 L1136 X1137 hQ1138 => ?_)
    obtain ⟨a1142, rfl, N1139, K1140, O1143, A1144⟩ := hQ1138
    have A1145 := Aj0.keep K1140 nin0
    have A1146 := Aj1.keep K1140 nin0
    have A1147 := Aj2.keep K1140 nin0
    have A1148 := Aj3.keep K1140 nin0
    have Z1149 : n0 ≤ T1135.heap.size := Nat.le_trans Zj K1140.1
    have N1141 := Fr.app Nj N1139
    have ne1150 : a488 ≠ a1142 := Nat.ne_of_lt (Nat.lt_of_lt_of_le Aj0.lt O1143)
    have ne1151 : a546 ≠ a1142 := Nat.ne_of_lt (Nat.lt_of_lt_of_le Aj1.lt O1143)
    have ne1152 : a612 ≠ a1142 := Nat.ne_of_lt (Nat.lt_of_lt_of_le Aj2.lt O1143)
    have ne1153 : a686 ≠ a1142 := Nat.ne_of_lt (Nat.lt_of_lt_of_le Aj3.lt O1143)
    have Z1154 : n0 ≤ a1142 := Nat.le_trans Zj O1143
    show own_Go p e below (own_E s 24 128 (own_Q0 n0)) (T1135.setTop (mkF m 269 #[.val (.int p1), .val (.long q2), .second, .val (.long q3), .second, .val (.long q4), .second, .val (.int (((p1 &&& (2147483647 : Int32)) % (63 : Int32)) + (1 : Int32))), .val (.ref a488), .val (.ref a546), .val (.ref a612), .val (.ref a686), .val (.int (6 : Int32)), .unset, .unset] [.ref a1142]))
    refine own_astore (L' := #[.val (.int p1), .val (.long q2), .second, .val (.long q3), .second, .val (.long q4), .second, .val (.int (((p1 &&& (2147483647 : Int32)) % (63 : Int32)) + (1 : Int32))), .val (.ref a488), .val (.ref a546), .val (.ref a612), .val (.ref a686), .val (.int (6 : Int32)), .val (.ref a1142), .unset]) X1137 hx (hb hby at_269) (q := 271) rfl rfl rfl ?_
    refine own_iload X1137 hx (hb hby at_271) (q := 273) rfl rfl ?_
    refine own_iconst X1137 hx (v := (1 : Int32)) (hb hby at_273) (q := 274) rfl rfl ?_
    refine own_icmpP X1137 hx (hb hby at_274) (cd := .lt) (x := (6 : Int32)) (y := (1 : Int32)) (pt := 294) (q := 277) (by decide) (by decide) rfl rfl (fun h => False.elim (((by decide) : ¬ ((6 : Int32) < (1 : Int32))) h)) (fun _ => ?_)
    refine own_aload X1137 hx (hb hby at_277) (q := 279) rfl rfl rfl ?_
    refine own_aload X1137 hx (hb hby at_279) (q := 281) rfl rfl rfl ?_
    refine own_iconst X1137 hx (v := (1 : Int32)) (hb hby at_281) (q := 282) rfl rfl ?_
    refine own_iload X1137 hx (hb hby at_282) (q := 284) rfl rfl ?_
    refine own_irem X1137 hx (hb hby at_284) (q := 285) rfl (by decide) ?_
    rw [show ((1 : Int32) % (6 : Int32) : Int32) = (1 : Int32) from by decide]
    refine own_iaload X1137 hx hZ (i := 1) (v := .int x1) rfl A1148 (by decide) (by decide) rfl (hb hby at_285) (q := 286) rfl ?_
    refine own_aload X1137 hx (hb hby at_286) (q := 288) rfl rfl rfl ?_
    refine own_aload X1137 hx (hb hby at_288) (q := 290) rfl rfl rfl ?_
    refine own_iconst X1137 hx (v := (0 : Int32)) (hb hby at_290) (q := 291) rfl rfl ?_
    refine own_iaload X1137 hx hZ (i := 0) (v := .int x0) rfl A1148 (by decide) (by decide) rfl (hb hby at_291) (q := 292) rfl ?_
    refine own_iaload X1137 hx hZ (i := (x0).toNatClampNeg) (v := .int (own_v6_400 x0 x1 x2 x3 x4 x5 t0 t1 t2 t3 t4 t5)) rfl A1145 (own_nn6 (own_S6_0 hS)) rfl (own_cat6V (own_S6_0 hS)) (hb hby at_292) (q := 293) rfl ?_
    refine own_iastore X1137 hx hZ (i := (x1).toNatClampNeg) rfl A1147 (own_nn6 (own_S6_1 hS)) rfl (own_lt6 (own_S6_1 hS)) (hb hby at_293) (q := 294) rfl (fun T1155 h1158 X1156 e1157 W1159 A1160 => ?_)
    replace A1160 : own_A Z h1158 a612 .int [.int (own_v6_401 x0 x1 x2 x3 x4 x5 t0 t1 t2 t3 t4 t5), .int (own_v6_402 x0 x1 x2 x3 x4 x5 t0 t1 t2 t3 t4 t5), .int (own_v6_403 x0 x1 x2 x3 x4 x5 t0 t1 t2 t3 t4 t5), .int (own_v6_404 x0 x1 x2 x3 x4 x5 t0 t1 t2 t3 t4 t5), .int (own_v6_405 x0 x1 x2 x3 x4 x5 t0 t1 t2 t3 t4 t5), .int (own_v6_406 x0 x1 x2 x3 x4 x5 t0 t1 t2 t3 t4 t5)] := by rw [own_set6 (own_S6_1 hS)] at A1160; exact A1160
    have A1161 := A1145.other W1159 ne618
    have A1162 := A1146.other W1159 ne619
    have A1163 := A1148.other W1159 (Ne.symm ne695)
    have A1164 := A1144.other W1159 (Ne.symm ne1152)
    have Z1165 : n0 ≤ h1158.size := W1159.size ▸ Z1149
    have N1166 := Fr.snoc X1156 N1141 Z620
    refine own_iload X1156 hx (hb hby at_294) (q := 296) rfl rfl ?_
    refine own_iconst X1156 hx (v := (2 : Int32)) (hb hby at_296) (q := 297) rfl rfl ?_
    refine own_icmpP X1156 hx (hb hby at_297) (cd := .lt) (x := (6 : Int32)) (y := (2 : Int32)) (pt := 317) (q := 300) (by decide) (by decide) rfl rfl (fun h => False.elim (((by decide) : ¬ ((6 : Int32) < (2 : Int32))) h)) (fun _ => ?_)
    refine own_aload X1156 hx (hb hby at_300) (q := 302) rfl rfl rfl ?_
    refine own_aload X1156 hx (hb hby at_302) (q := 304) rfl rfl rfl ?_
    refine own_iconst X1156 hx (v := (2 : Int32)) (hb hby at_304) (q := 305) rfl rfl ?_
    refine own_iload X1156 hx (hb hby at_305) (q := 307) rfl rfl ?_
    refine own_irem X1156 hx (hb hby at_307) (q := 308) rfl (by decide) ?_
    rw [show ((2 : Int32) % (6 : Int32) : Int32) = (2 : Int32) from by decide]
    refine own_iaload X1156 hx hZ (i := 2) (v := .int x2) e1157 A1163 (by decide) (by decide) rfl (hb hby at_308) (q := 309) rfl ?_
    refine own_aload X1156 hx (hb hby at_309) (q := 311) rfl rfl rfl ?_
    refine own_aload X1156 hx (hb hby at_311) (q := 313) rfl rfl rfl ?_
    refine own_iconst X1156 hx (v := (1 : Int32)) (hb hby at_313) (q := 314) rfl rfl ?_
    refine own_iaload X1156 hx hZ (i := 1) (v := .int x1) e1157 A1163 (by decide) (by decide) rfl (hb hby at_314) (q := 315) rfl ?_
    refine own_iaload X1156 hx hZ (i := (x1).toNatClampNeg) (v := .int (own_v6_407 x0 x1 x2 x3 x4 x5 t0 t1 t2 t3 t4 t5)) e1157 A1161 (own_nn6 (own_S6_1 hS)) rfl (own_cat6V (own_S6_1 hS)) (hb hby at_315) (q := 316) rfl ?_
    refine own_iastore X1156 hx hZ (i := (x2).toNatClampNeg) e1157 A1160 (own_nn6 (own_S6_2 hS)) rfl (own_lt6 (own_S6_2 hS)) (hb hby at_316) (q := 317) rfl (fun T1167 h1170 X1168 e1169 W1171 A1172 => ?_)
    replace A1172 : own_A Z h1170 a612 .int [.int (own_v6_408 x0 x1 x2 x3 x4 x5 t0 t1 t2 t3 t4 t5), .int (own_v6_409 x0 x1 x2 x3 x4 x5 t0 t1 t2 t3 t4 t5), .int (own_v6_410 x0 x1 x2 x3 x4 x5 t0 t1 t2 t3 t4 t5), .int (own_v6_411 x0 x1 x2 x3 x4 x5 t0 t1 t2 t3 t4 t5), .int (own_v6_412 x0 x1 x2 x3 x4 x5 t0 t1 t2 t3 t4 t5), .int (own_v6_413 x0 x1 x2 x3 x4 x5 t0 t1 t2 t3 t4 t5)] := by rw [own_set6 (own_S6_2 hS)] at A1172; exact A1172
    have A1173 := A1161.other W1171 ne618
    have A1174 := A1162.other W1171 ne619
    have A1175 := A1163.other W1171 (Ne.symm ne695)
    have A1176 := A1164.other W1171 (Ne.symm ne1152)
    have Z1177 : n0 ≤ h1170.size := W1171.size ▸ Z1165
    have N1178 := Fr.snoc X1168 N1166 Z620
    refine own_iload X1168 hx (hb hby at_317) (q := 319) rfl rfl ?_
    refine own_iconst X1168 hx (v := (3 : Int32)) (hb hby at_319) (q := 320) rfl rfl ?_
    refine own_icmpP X1168 hx (hb hby at_320) (cd := .lt) (x := (6 : Int32)) (y := (3 : Int32)) (pt := 340) (q := 323) (by decide) (by decide) rfl rfl (fun h => False.elim (((by decide) : ¬ ((6 : Int32) < (3 : Int32))) h)) (fun _ => ?_)
    refine own_aload X1168 hx (hb hby at_323) (q := 325) rfl rfl rfl ?_
    refine own_aload X1168 hx (hb hby at_325) (q := 327) rfl rfl rfl ?_
    refine own_iconst X1168 hx (v := (3 : Int32)) (hb hby at_327) (q := 328) rfl rfl ?_
    refine own_iload X1168 hx (hb hby at_328) (q := 330) rfl rfl ?_
    refine own_irem X1168 hx (hb hby at_330) (q := 331) rfl (by decide) ?_
    rw [show ((3 : Int32) % (6 : Int32) : Int32) = (3 : Int32) from by decide]
    refine own_iaload X1168 hx hZ (i := 3) (v := .int x3) e1169 A1175 (by decide) (by decide) rfl (hb hby at_331) (q := 332) rfl ?_
    refine own_aload X1168 hx (hb hby at_332) (q := 334) rfl rfl rfl ?_
    refine own_aload X1168 hx (hb hby at_334) (q := 336) rfl rfl rfl ?_
    refine own_iconst X1168 hx (v := (2 : Int32)) (hb hby at_336) (q := 337) rfl rfl ?_
    refine own_iaload X1168 hx hZ (i := 2) (v := .int x2) e1169 A1175 (by decide) (by decide) rfl (hb hby at_337) (q := 338) rfl ?_
    refine own_iaload X1168 hx hZ (i := (x2).toNatClampNeg) (v := .int (own_v6_414 x0 x1 x2 x3 x4 x5 t0 t1 t2 t3 t4 t5)) e1169 A1173 (own_nn6 (own_S6_2 hS)) rfl (own_cat6V (own_S6_2 hS)) (hb hby at_338) (q := 339) rfl ?_
    refine own_iastore X1168 hx hZ (i := (x3).toNatClampNeg) e1169 A1172 (own_nn6 (own_S6_3 hS)) rfl (own_lt6 (own_S6_3 hS)) (hb hby at_339) (q := 340) rfl (fun T1179 h1182 X1180 e1181 W1183 A1184 => ?_)
    replace A1184 : own_A Z h1182 a612 .int [.int (own_v6_415 x0 x1 x2 x3 x4 x5 t0 t1 t2 t3 t4 t5), .int (own_v6_416 x0 x1 x2 x3 x4 x5 t0 t1 t2 t3 t4 t5), .int (own_v6_417 x0 x1 x2 x3 x4 x5 t0 t1 t2 t3 t4 t5), .int (own_v6_418 x0 x1 x2 x3 x4 x5 t0 t1 t2 t3 t4 t5), .int (own_v6_419 x0 x1 x2 x3 x4 x5 t0 t1 t2 t3 t4 t5), .int (own_v6_420 x0 x1 x2 x3 x4 x5 t0 t1 t2 t3 t4 t5)] := by rw [own_set6 (own_S6_3 hS)] at A1184; exact A1184
    have A1185 := A1173.other W1183 ne618
    have A1186 := A1174.other W1183 ne619
    have A1187 := A1175.other W1183 (Ne.symm ne695)
    have A1188 := A1176.other W1183 (Ne.symm ne1152)
    have Z1189 : n0 ≤ h1182.size := W1183.size ▸ Z1177
    have N1190 := Fr.snoc X1180 N1178 Z620
    refine own_iload X1180 hx (hb hby at_340) (q := 342) rfl rfl ?_
    refine own_iconst X1180 hx (v := (4 : Int32)) (hb hby at_342) (q := 343) rfl rfl ?_
    refine own_icmpP X1180 hx (hb hby at_343) (cd := .lt) (x := (6 : Int32)) (y := (4 : Int32)) (pt := 363) (q := 346) (by decide) (by decide) rfl rfl (fun h => False.elim (((by decide) : ¬ ((6 : Int32) < (4 : Int32))) h)) (fun _ => ?_)
    refine own_aload X1180 hx (hb hby at_346) (q := 348) rfl rfl rfl ?_
    refine own_aload X1180 hx (hb hby at_348) (q := 350) rfl rfl rfl ?_
    refine own_iconst X1180 hx (v := (4 : Int32)) (hb hby at_350) (q := 351) rfl rfl ?_
    refine own_iload X1180 hx (hb hby at_351) (q := 353) rfl rfl ?_
    refine own_irem X1180 hx (hb hby at_353) (q := 354) rfl (by decide) ?_
    rw [show ((4 : Int32) % (6 : Int32) : Int32) = (4 : Int32) from by decide]
    refine own_iaload X1180 hx hZ (i := 4) (v := .int x4) e1181 A1187 (by decide) (by decide) rfl (hb hby at_354) (q := 355) rfl ?_
    refine own_aload X1180 hx (hb hby at_355) (q := 357) rfl rfl rfl ?_
    refine own_aload X1180 hx (hb hby at_357) (q := 359) rfl rfl rfl ?_
    refine own_iconst X1180 hx (v := (3 : Int32)) (hb hby at_359) (q := 360) rfl rfl ?_
    refine own_iaload X1180 hx hZ (i := 3) (v := .int x3) e1181 A1187 (by decide) (by decide) rfl (hb hby at_360) (q := 361) rfl ?_
    refine own_iaload X1180 hx hZ (i := (x3).toNatClampNeg) (v := .int (own_v6_421 x0 x1 x2 x3 x4 x5 t0 t1 t2 t3 t4 t5)) e1181 A1185 (own_nn6 (own_S6_3 hS)) rfl (own_cat6V (own_S6_3 hS)) (hb hby at_361) (q := 362) rfl ?_
    refine own_iastore X1180 hx hZ (i := (x4).toNatClampNeg) e1181 A1184 (own_nn6 (own_S6_4 hS)) rfl (own_lt6 (own_S6_4 hS)) (hb hby at_362) (q := 363) rfl (fun T1191 h1194 X1192 e1193 W1195 A1196 => ?_)
    replace A1196 : own_A Z h1194 a612 .int [.int (own_v6_422 x0 x1 x2 x3 x4 x5 t0 t1 t2 t3 t4 t5), .int (own_v6_423 x0 x1 x2 x3 x4 x5 t0 t1 t2 t3 t4 t5), .int (own_v6_424 x0 x1 x2 x3 x4 x5 t0 t1 t2 t3 t4 t5), .int (own_v6_425 x0 x1 x2 x3 x4 x5 t0 t1 t2 t3 t4 t5), .int (own_v6_426 x0 x1 x2 x3 x4 x5 t0 t1 t2 t3 t4 t5), .int (own_v6_427 x0 x1 x2 x3 x4 x5 t0 t1 t2 t3 t4 t5)] := by rw [own_set6 (own_S6_4 hS)] at A1196; exact A1196
    have A1197 := A1185.other W1195 ne618
    have A1198 := A1186.other W1195 ne619
    have A1199 := A1187.other W1195 (Ne.symm ne695)
    have A1200 := A1188.other W1195 (Ne.symm ne1152)
    have Z1201 : n0 ≤ h1194.size := W1195.size ▸ Z1189
    have N1202 := Fr.snoc X1192 N1190 Z620
    refine own_iload X1192 hx (hb hby at_363) (q := 365) rfl rfl ?_
    refine own_iconst X1192 hx (v := (5 : Int32)) (hb hby at_365) (q := 366) rfl rfl ?_
    refine own_icmpP X1192 hx (hb hby at_366) (cd := .lt) (x := (6 : Int32)) (y := (5 : Int32)) (pt := 386) (q := 369) (by decide) (by decide) rfl rfl (fun h => False.elim (((by decide) : ¬ ((6 : Int32) < (5 : Int32))) h)) (fun _ => ?_)
    refine own_aload X1192 hx (hb hby at_369) (q := 371) rfl rfl rfl ?_
    refine own_aload X1192 hx (hb hby at_371) (q := 373) rfl rfl rfl ?_
    refine own_iconst X1192 hx (v := (5 : Int32)) (hb hby at_373) (q := 374) rfl rfl ?_
    refine own_iload X1192 hx (hb hby at_374) (q := 376) rfl rfl ?_
    refine own_irem X1192 hx (hb hby at_376) (q := 377) rfl (by decide) ?_
    rw [show ((5 : Int32) % (6 : Int32) : Int32) = (5 : Int32) from by decide]
    refine own_iaload X1192 hx hZ (i := 5) (v := .int x5) e1193 A1199 (by decide) (by decide) rfl (hb hby at_377) (q := 378) rfl ?_
    refine own_aload X1192 hx (hb hby at_378) (q := 380) rfl rfl rfl ?_
    refine own_aload X1192 hx (hb hby at_380) (q := 382) rfl rfl rfl ?_
    refine own_iconst X1192 hx (v := (4 : Int32)) (hb hby at_382) (q := 383) rfl rfl ?_
    refine own_iaload X1192 hx hZ (i := 4) (v := .int x4) e1193 A1199 (by decide) (by decide) rfl (hb hby at_383) (q := 384) rfl ?_
    refine own_iaload X1192 hx hZ (i := (x4).toNatClampNeg) (v := .int (own_v6_428 x0 x1 x2 x3 x4 x5 t0 t1 t2 t3 t4 t5)) e1193 A1197 (own_nn6 (own_S6_4 hS)) rfl (own_cat6V (own_S6_4 hS)) (hb hby at_384) (q := 385) rfl ?_
    refine own_iastore X1192 hx hZ (i := (x5).toNatClampNeg) e1193 A1196 (own_nn6 (own_S6_5 hS)) rfl (own_lt6 (own_S6_5 hS)) (hb hby at_385) (q := 386) rfl (fun T1203 h1206 X1204 e1205 W1207 A1208 => ?_)
    replace A1208 : own_A Z h1206 a612 .int [.int (own_v6_429 x0 x1 x2 x3 x4 x5 t0 t1 t2 t3 t4 t5), .int (own_v6_430 x0 x1 x2 x3 x4 x5 t0 t1 t2 t3 t4 t5), .int (own_v6_431 x0 x1 x2 x3 x4 x5 t0 t1 t2 t3 t4 t5), .int (own_v6_432 x0 x1 x2 x3 x4 x5 t0 t1 t2 t3 t4 t5), .int (own_v6_433 x0 x1 x2 x3 x4 x5 t0 t1 t2 t3 t4 t5), .int (own_v6_434 x0 x1 x2 x3 x4 x5 t0 t1 t2 t3 t4 t5)] := by rw [own_set6 (own_S6_5 hS)] at A1208; exact A1208
    have A1209 := A1197.other W1207 ne618
    have A1210 := A1198.other W1207 ne619
    have A1211 := A1199.other W1207 (Ne.symm ne695)
    have A1212 := A1200.other W1207 (Ne.symm ne1152)
    have Z1213 : n0 ≤ h1206.size := W1207.size ▸ Z1201
    have N1214 := Fr.snoc X1204 N1202 Z620
    refine own_iload X1204 hx (hb hby at_386) (q := 388) rfl rfl ?_
    refine own_bipush X1204 hx (v := (6 : Int32)) (hb hby at_388) (q := 390) rfl rfl ?_
    refine own_icmpP X1204 hx (hb hby at_390) (cd := .lt) (x := (6 : Int32)) (y := (6 : Int32)) (pt := 407) (q := 393) (by decide) (by decide) rfl rfl (fun h => False.elim (((by decide) : ¬ ((6 : Int32) < (6 : Int32))) h)) (fun _ => ?_)
    refine own_aload X1204 hx (hb hby at_393) (q := 395) rfl rfl rfl ?_
    refine own_aload X1204 hx (hb hby at_395) (q := 397) rfl rfl rfl ?_
    refine own_iconst X1204 hx (v := (0 : Int32)) (hb hby at_397) (q := 398) rfl rfl ?_
    refine own_iaload X1204 hx hZ (i := 0) (v := .int x0) e1205 A1211 (by decide) (by decide) rfl (hb hby at_398) (q := 399) rfl ?_
    refine own_aload X1204 hx (hb hby at_399) (q := 401) rfl rfl rfl ?_
    refine own_aload X1204 hx (hb hby at_401) (q := 403) rfl rfl rfl ?_
    refine own_iconst X1204 hx (v := (5 : Int32)) (hb hby at_403) (q := 404) rfl rfl ?_
    refine own_iaload X1204 hx hZ (i := 5) (v := .int x5) e1205 A1211 (by decide) (by decide) rfl (hb hby at_404) (q := 405) rfl ?_
    refine own_iaload X1204 hx hZ (i := (x5).toNatClampNeg) (v := .int (own_v6_435 x0 x1 x2 x3 x4 x5 t0 t1 t2 t3 t4 t5)) e1205 A1209 (own_nn6 (own_S6_5 hS)) rfl (own_cat6V (own_S6_5 hS)) (hb hby at_405) (q := 406) rfl ?_
    refine own_iastore X1204 hx hZ (i := (x0).toNatClampNeg) e1205 A1208 (own_nn6 (own_S6_0 hS)) rfl (own_lt6 (own_S6_0 hS)) (hb hby at_406) (q := 407) rfl (fun T1215 h1218 X1216 e1217 W1219 A1220 => ?_)
    replace A1220 : own_A Z h1218 a612 .int [.int (own_v6_436 x0 x1 x2 x3 x4 x5 t0 t1 t2 t3 t4 t5), .int (own_v6_437 x0 x1 x2 x3 x4 x5 t0 t1 t2 t3 t4 t5), .int (own_v6_438 x0 x1 x2 x3 x4 x5 t0 t1 t2 t3 t4 t5), .int (own_v6_439 x0 x1 x2 x3 x4 x5 t0 t1 t2 t3 t4 t5), .int (own_v6_440 x0 x1 x2 x3 x4 x5 t0 t1 t2 t3 t4 t5), .int (own_v6_441 x0 x1 x2 x3 x4 x5 t0 t1 t2 t3 t4 t5)] := by rw [own_set6 (own_S6_0 hS)] at A1220; exact A1220
    have A1221 := A1209.other W1219 ne618
    have A1222 := A1210.other W1219 ne619
    have A1223 := A1211.other W1219 (Ne.symm ne695)
    have A1224 := A1212.other W1219 (Ne.symm ne1152)
    have Z1225 : n0 ≤ h1218.size := W1219.size ▸ Z1213
    have N1226 := Fr.snoc X1216 N1214 Z620
    refine own_aload X1216 hx (hb hby at_407) (q := 409) rfl rfl rfl ?_
    refine own_aload X1216 hx (hb hby at_409) (q := 411) rfl rfl rfl ?_
    refine own_callS X1216 hx hZ hown (hw _ (List.mem_of_getElem? (i := 6) rfl)) (hw _ (List.mem_of_getElem? (i := 7) rfl)) (hw _ (List.mem_of_getElem? (i := 8) rfl)) (hw _ (List.mem_of_getElem? (i := 9) rfl)) (by decide) (rm2_6 l Z a0 hw [] a546 a1142 t0 t1 t2 t3 t4 t5 x0 x1 x2 x3 x4 x5 h1218 n0 A1222 A1224 Z552 (Ne.symm ne1151) hS) own_pd1 rfl e1217 (by rw [hml]; rfl) (argsL := [.ref a546, .ref a1142]) (st := []) rfl (W := 0) (Nat.le_of_eq rfl) (by decide) (by decide) (by decide) (by decide) (hb hby at_411) (q := 414) rfl (fun v1233 T1234 L1235 X1236 hQ1237 => ?_)
    obtain ⟨rfl, N1238, K1239, A1241, A1242⟩ := hQ1237
    have A1243 := A1221.keep K1239 (ninS ne551 nin0)
    have A1244 := A1223.keep K1239 (ninS (Ne.symm ne694) nin0)
    have A1245 := A1220.keep K1239 (ninS (Ne.symm ne619) nin0)
    have Z1246 : n0 ≤ T1234.heap.size := Nat.le_trans Z1225 K1239.1
    have N1240 := Fr.app N1226 N1238
    show own_Go p e below (own_E s 24 128 (own_Q0 n0)) (T1234.setTop (mkF m 414 #[.val (.int p1), .val (.long q2), .second, .val (.long q3), .second, .val (.long q4), .second, .val (.int (((p1 &&& (2147483647 : Int32)) % (63 : Int32)) + (1 : Int32))), .val (.ref a488), .val (.ref a546), .val (.ref a612), .val (.ref a686), .val (.int (6 : Int32)), .val (.ref a1142), .unset] []))
    refine own_aload X1236 hx (hb hby at_414) (q := 416) rfl rfl rfl ?_
    refine own_iconst X1236 hx (v := (0 : Int32)) (hb hby at_416) (q := 417) rfl rfl ?_
    refine own_iaload X1236 hx hZ (i := 0) (v := .int (own_v6_247 x0 x1 x2 x3 x4 x5 t0 t1 t2 t3 t4 t5)) rfl A1241 (by decide) (by decide) rfl (hb hby at_417) (q := 418) rfl ?_
    refine own_aload X1236 hx (hb hby at_418) (q := 420) rfl rfl rfl ?_
    refine own_iconst X1236 hx (v := (0 : Int32)) (hb hby at_420) (q := 421) rfl rfl ?_
    refine own_iaload X1236 hx hZ (i := 0) (v := .int (own_v6_436 x0 x1 x2 x3 x4 x5 t0 t1 t2 t3 t4 t5)) rfl A1245 (by decide) (by decide) rfl (hb hby at_421) (q := 422) rfl ?_
    refine own_icmpM X1236 hx (hb hby at_422) (cd := .ne) (x := own_v6_247 x0 x1 x2 x3 x4 x5 t0 t1 t2 t3 t4 t5) (y := own_v6_436 x0 x1 x2 x3 x4 x5 t0 t1 t2 t3 t4 t5) (pt := 484) (q := 425) (by decide) (by decide) rfl rfl (fun h => False.elim (h ((own_eq_6_422 hS) : (own_v6_247 x0 x1 x2 x3 x4 x5 t0 t1 t2 t3 t4 t5) = (own_v6_436 x0 x1 x2 x3 x4 x5 t0 t1 t2 t3 t4 t5)))) (fun _ => ?_)
    refine own_aload X1236 hx (hb hby at_425) (q := 427) rfl rfl rfl ?_
    refine own_iconst X1236 hx (v := (1 : Int32)) (hb hby at_427) (q := 428) rfl rfl ?_
    refine own_iaload X1236 hx hZ (i := 1) (v := .int (own_v6_248 x0 x1 x2 x3 x4 x5 t0 t1 t2 t3 t4 t5)) rfl A1241 (by decide) (by decide) rfl (hb hby at_428) (q := 429) rfl ?_
    refine own_aload X1236 hx (hb hby at_429) (q := 431) rfl rfl rfl ?_
    refine own_iconst X1236 hx (v := (1 : Int32)) (hb hby at_431) (q := 432) rfl rfl ?_
    refine own_iaload X1236 hx hZ (i := 1) (v := .int (own_v6_437 x0 x1 x2 x3 x4 x5 t0 t1 t2 t3 t4 t5)) rfl A1245 (by decide) (by decide) rfl (hb hby at_432) (q := 433) rfl ?_
    refine own_icmpM X1236 hx (hb hby at_433) (cd := .ne) (x := own_v6_248 x0 x1 x2 x3 x4 x5 t0 t1 t2 t3 t4 t5) (y := own_v6_437 x0 x1 x2 x3 x4 x5 t0 t1 t2 t3 t4 t5) (pt := 484) (q := 436) (by decide) (by decide) rfl rfl (fun h => False.elim (h ((own_eq_6_433 hS) : (own_v6_248 x0 x1 x2 x3 x4 x5 t0 t1 t2 t3 t4 t5) = (own_v6_437 x0 x1 x2 x3 x4 x5 t0 t1 t2 t3 t4 t5)))) (fun _ => ?_)
    refine own_aload X1236 hx (hb hby at_436) (q := 438) rfl rfl rfl ?_
    refine own_iconst X1236 hx (v := (2 : Int32)) (hb hby at_438) (q := 439) rfl rfl ?_
    refine own_iaload X1236 hx hZ (i := 2) (v := .int (own_v6_249 x0 x1 x2 x3 x4 x5 t0 t1 t2 t3 t4 t5)) rfl A1241 (by decide) (by decide) rfl (hb hby at_439) (q := 440) rfl ?_
    refine own_aload X1236 hx (hb hby at_440) (q := 442) rfl rfl rfl ?_
    refine own_iconst X1236 hx (v := (2 : Int32)) (hb hby at_442) (q := 443) rfl rfl ?_
    refine own_iaload X1236 hx hZ (i := 2) (v := .int (own_v6_438 x0 x1 x2 x3 x4 x5 t0 t1 t2 t3 t4 t5)) rfl A1245 (by decide) (by decide) rfl (hb hby at_443) (q := 444) rfl ?_
    refine own_icmpM X1236 hx (hb hby at_444) (cd := .ne) (x := own_v6_249 x0 x1 x2 x3 x4 x5 t0 t1 t2 t3 t4 t5) (y := own_v6_438 x0 x1 x2 x3 x4 x5 t0 t1 t2 t3 t4 t5) (pt := 484) (q := 447) (by decide) (by decide) rfl rfl (fun h => False.elim (h ((own_eq_6_444 hS) : (own_v6_249 x0 x1 x2 x3 x4 x5 t0 t1 t2 t3 t4 t5) = (own_v6_438 x0 x1 x2 x3 x4 x5 t0 t1 t2 t3 t4 t5)))) (fun _ => ?_)
    refine own_aload X1236 hx (hb hby at_447) (q := 449) rfl rfl rfl ?_
    refine own_iconst X1236 hx (v := (3 : Int32)) (hb hby at_449) (q := 450) rfl rfl ?_
    refine own_iaload X1236 hx hZ (i := 3) (v := .int (own_v6_250 x0 x1 x2 x3 x4 x5 t0 t1 t2 t3 t4 t5)) rfl A1241 (by decide) (by decide) rfl (hb hby at_450) (q := 451) rfl ?_
    refine own_aload X1236 hx (hb hby at_451) (q := 453) rfl rfl rfl ?_
    refine own_iconst X1236 hx (v := (3 : Int32)) (hb hby at_453) (q := 454) rfl rfl ?_
    refine own_iaload X1236 hx hZ (i := 3) (v := .int (own_v6_439 x0 x1 x2 x3 x4 x5 t0 t1 t2 t3 t4 t5)) rfl A1245 (by decide) (by decide) rfl (hb hby at_454) (q := 455) rfl ?_
    refine own_icmpM X1236 hx (hb hby at_455) (cd := .ne) (x := own_v6_250 x0 x1 x2 x3 x4 x5 t0 t1 t2 t3 t4 t5) (y := own_v6_439 x0 x1 x2 x3 x4 x5 t0 t1 t2 t3 t4 t5) (pt := 484) (q := 458) (by decide) (by decide) rfl rfl (fun h => False.elim (h ((own_eq_6_455 hS) : (own_v6_250 x0 x1 x2 x3 x4 x5 t0 t1 t2 t3 t4 t5) = (own_v6_439 x0 x1 x2 x3 x4 x5 t0 t1 t2 t3 t4 t5)))) (fun _ => ?_)
    refine own_aload X1236 hx (hb hby at_458) (q := 460) rfl rfl rfl ?_
    refine own_iconst X1236 hx (v := (4 : Int32)) (hb hby at_460) (q := 461) rfl rfl ?_
    refine own_iaload X1236 hx hZ (i := 4) (v := .int (own_v6_251 x0 x1 x2 x3 x4 x5 t0 t1 t2 t3 t4 t5)) rfl A1241 (by decide) (by decide) rfl (hb hby at_461) (q := 462) rfl ?_
    refine own_aload X1236 hx (hb hby at_462) (q := 464) rfl rfl rfl ?_
    refine own_iconst X1236 hx (v := (4 : Int32)) (hb hby at_464) (q := 465) rfl rfl ?_
    refine own_iaload X1236 hx hZ (i := 4) (v := .int (own_v6_440 x0 x1 x2 x3 x4 x5 t0 t1 t2 t3 t4 t5)) rfl A1245 (by decide) (by decide) rfl (hb hby at_465) (q := 466) rfl ?_
    refine own_icmpM X1236 hx (hb hby at_466) (cd := .ne) (x := own_v6_251 x0 x1 x2 x3 x4 x5 t0 t1 t2 t3 t4 t5) (y := own_v6_440 x0 x1 x2 x3 x4 x5 t0 t1 t2 t3 t4 t5) (pt := 484) (q := 469) (by decide) (by decide) rfl rfl (fun h => False.elim (h ((own_eq_6_466 hS) : (own_v6_251 x0 x1 x2 x3 x4 x5 t0 t1 t2 t3 t4 t5) = (own_v6_440 x0 x1 x2 x3 x4 x5 t0 t1 t2 t3 t4 t5)))) (fun _ => ?_)
    refine own_aload X1236 hx (hb hby at_469) (q := 471) rfl rfl rfl ?_
    refine own_iconst X1236 hx (v := (5 : Int32)) (hb hby at_471) (q := 472) rfl rfl ?_
    refine own_iaload X1236 hx hZ (i := 5) (v := .int (own_v6_252 x0 x1 x2 x3 x4 x5 t0 t1 t2 t3 t4 t5)) rfl A1241 (by decide) (by decide) rfl (hb hby at_472) (q := 473) rfl ?_
    refine own_aload X1236 hx (hb hby at_473) (q := 475) rfl rfl rfl ?_
    refine own_iconst X1236 hx (v := (5 : Int32)) (hb hby at_475) (q := 476) rfl rfl ?_
    refine own_iaload X1236 hx hZ (i := 5) (v := .int (own_v6_441 x0 x1 x2 x3 x4 x5 t0 t1 t2 t3 t4 t5)) rfl A1245 (by decide) (by decide) rfl (hb hby at_476) (q := 477) rfl ?_
    refine own_icmpM X1236 hx (hb hby at_477) (cd := .ne) (x := own_v6_252 x0 x1 x2 x3 x4 x5 t0 t1 t2 t3 t4 t5) (y := own_v6_441 x0 x1 x2 x3 x4 x5 t0 t1 t2 t3 t4 t5) (pt := 484) (q := 480) (by decide) (by decide) rfl rfl (fun h => False.elim (h ((own_eq_6_477 hS) : (own_v6_252 x0 x1 x2 x3 x4 x5 t0 t1 t2 t3 t4 t5) = (own_v6_441 x0 x1 x2 x3 x4 x5 t0 t1 t2 t3 t4 t5)))) (fun _ => ?_)
    refine own_iconst X1236 hx (v := (1 : Int32)) (hb hby at_480) (q := 481) rfl rfl ?_
    refine own_goto X1236 hx (hb hby at_481) (q := 485) (by decide) (by decide) ?_
    refine own_istore (L' := #[.val (.int p1), .val (.long q2), .second, .val (.long q3), .second, .val (.long q4), .second, .val (.int (((p1 &&& (2147483647 : Int32)) % (63 : Int32)) + (1 : Int32))), .val (.ref a488), .val (.ref a546), .val (.ref a612), .val (.ref a686), .val (.int (6 : Int32)), .val (.ref a1142), .val (.int (1 : Int32))]) X1236 hx (hb hby at_485) (q := 487) rfl rfl ?_
    refine own_iload X1236 hx (hb hby at_487) (q := 489) rfl rfl ?_
    refine own_if0P X1236 hx (hb hby at_489) (cd := .eq) (x := (1 : Int32)) (pt := 508) (q := 492) (by decide) (by decide) rfl rfl (fun h => False.elim (((by decide) : ¬ ((1 : Int32) = (0 : Int32))) h)) (fun _ => ?_)
    refine own_aload X1236 hx (hb hby at_492) (q := 494) rfl rfl rfl ?_
    refine own_aload X1236 hx (hb hby at_494) (q := 496) rfl rfl rfl ?_
    refine own_iload X1236 hx (hb hby at_496) (q := 498) rfl rfl ?_
    refine own_callSP X1236 hx hZ hown (hw _ (List.mem_of_getElem? (i := 10) rfl)) (hw _ (List.mem_of_getElem? (i := 11) rfl)) (hw _ (List.mem_of_getElem? (i := 4) rfl)) (hw _ (List.mem_of_getElem? (i := 12) rfl)) (by decide) (rm3_6 l Z a0 hw [] a1142 a686 x0 x1 x2 x3 x4 x5 T1234.heap A1242 A1244) own_pd2 rfl rfl (by rw [hml]; rfl) (argsL := [.ref a1142, .ref a686, .int (6 : Int32)]) (st := []) rfl (W := 0) (Nat.le_of_eq rfl) (by decide) (by decide) (by decide) (by decide) (hb hby at_498) (q := 501) rfl (fun T1247 X1248 e1249 => ?_)
    rw [show (own_f3_6 x0 x1 x2 x3 x4 x5 : Int32) = (1 : Int32) from rfl]
    refine own_if0P X1248 hx (hb hby at_501) (cd := .eq) (x := (1 : Int32)) (pt := 508) (q := 504) (by decide) (by decide) rfl rfl (fun h => False.elim (((by decide) : ¬ ((1 : Int32) = (0 : Int32))) h)) (fun _ => ?_)
    refine own_iconst X1248 hx (v := (1 : Int32)) (hb hby at_504) (q := 505) rfl rfl ?_
    refine own_goto X1248 hx (hb hby at_505) (q := 509) (by decide) (by decide) ?_
    refine own_retN X1248 hx hlk (t := .boolean) (by simp) Bd.returns (hb hby at_509) ?_ (by decide) (by decide)
    exact ⟨rfl, N1240⟩
  refine own_iload X683 hx (hb hby at_163) (q := 165) rfl rfl ?_
  refine own_iconst X683 hx (v := (1 : Int32)) (hb hby at_165) (q := 166) rfl rfl ?_
  refine own_iand X683 hx (hb hby at_166) (q := 167) rfl ?_
  refine own_if0P X683 hx (hb hby at_167) (cd := .eq) (x := (((p1 &&& (2147483647 : Int32)) % (63 : Int32)) + (1 : Int32)) &&& (1 : Int32)) (pt := 179) (q := 170) (by decide) (by decide) rfl rfl (fun (c85 : ((((p1 &&& (2147483647 : Int32)) % (63 : Int32)) + (1 : Int32)) &&& (1 : Int32)) = (0 : Int32)) => ?_) (fun (c85 : ¬ (((((p1 &&& (2147483647 : Int32)) % (63 : Int32)) + (1 : Int32)) &&& (1 : Int32)) = (0 : Int32))) => ?_)
  · refine own_iload X683 hx (hb hby at_179) (q := 181) rfl rfl ?_
    refine own_iconst X683 hx (v := (2 : Int32)) (hb hby at_181) (q := 182) rfl rfl ?_
    refine own_iand X683 hx (hb hby at_182) (q := 183) rfl ?_
    refine own_if0P X683 hx (hb hby at_183) (cd := .eq) (x := (((p1 &&& (2147483647 : Int32)) % (63 : Int32)) + (1 : Int32)) &&& (2 : Int32)) (pt := 195) (q := 186) (by decide) (by decide) rfl rfl (fun (c86 : ((((p1 &&& (2147483647 : Int32)) % (63 : Int32)) + (1 : Int32)) &&& (2 : Int32)) = (0 : Int32)) => ?_) (fun (c86 : ¬ (((((p1 &&& (2147483647 : Int32)) % (63 : Int32)) + (1 : Int32)) &&& (2 : Int32)) = (0 : Int32))) => ?_)
    · refine own_iload X683 hx (hb hby at_195) (q := 197) rfl rfl ?_
      refine own_iconst X683 hx (v := (4 : Int32)) (hb hby at_197) (q := 198) rfl rfl ?_
      refine own_iand X683 hx (hb hby at_198) (q := 199) rfl ?_
      refine own_if0P X683 hx (hb hby at_199) (cd := .eq) (x := (((p1 &&& (2147483647 : Int32)) % (63 : Int32)) + (1 : Int32)) &&& (4 : Int32)) (pt := 211) (q := 202) (by decide) (by decide) rfl rfl (fun (c87 : ((((p1 &&& (2147483647 : Int32)) % (63 : Int32)) + (1 : Int32)) &&& (4 : Int32)) = (0 : Int32)) => ?_) (fun (c87 : ¬ (((((p1 &&& (2147483647 : Int32)) % (63 : Int32)) + (1 : Int32)) &&& (4 : Int32)) = (0 : Int32))) => ?_)
      · refine own_iload X683 hx (hb hby at_211) (q := 213) rfl rfl ?_
        refine own_bipush X683 hx (v := (8 : Int32)) (hb hby at_213) (q := 215) rfl rfl ?_
        refine own_iand X683 hx (hb hby at_215) (q := 216) rfl ?_
        refine own_if0P X683 hx (hb hby at_216) (cd := .eq) (x := (((p1 &&& (2147483647 : Int32)) % (63 : Int32)) + (1 : Int32)) &&& (8 : Int32)) (pt := 228) (q := 219) (by decide) (by decide) rfl rfl (fun (c88 : ((((p1 &&& (2147483647 : Int32)) % (63 : Int32)) + (1 : Int32)) &&& (8 : Int32)) = (0 : Int32)) => ?_) (fun (c88 : ¬ (((((p1 &&& (2147483647 : Int32)) % (63 : Int32)) + (1 : Int32)) &&& (8 : Int32)) = (0 : Int32))) => ?_)
        · refine own_iload X683 hx (hb hby at_228) (q := 230) rfl rfl ?_
          refine own_bipush X683 hx (v := (16 : Int32)) (hb hby at_230) (q := 232) rfl rfl ?_
          refine own_iand X683 hx (hb hby at_232) (q := 233) rfl ?_
          refine own_if0P X683 hx (hb hby at_233) (cd := .eq) (x := (((p1 &&& (2147483647 : Int32)) % (63 : Int32)) + (1 : Int32)) &&& (16 : Int32)) (pt := 245) (q := 236) (by decide) (by decide) rfl rfl (fun (c89 : ((((p1 &&& (2147483647 : Int32)) % (63 : Int32)) + (1 : Int32)) &&& (16 : Int32)) = (0 : Int32)) => ?_) (fun (c89 : ¬ (((((p1 &&& (2147483647 : Int32)) % (63 : Int32)) + (1 : Int32)) &&& (16 : Int32)) = (0 : Int32))) => ?_)
          · refine own_iload X683 hx (hb hby at_245) (q := 247) rfl rfl ?_
            refine own_bipush X683 hx (v := (32 : Int32)) (hb hby at_247) (q := 249) rfl rfl ?_
            refine own_iand X683 hx (hb hby at_249) (q := 250) rfl ?_
            refine own_if0P X683 hx (hb hby at_250) (cd := .eq) (x := (((p1 &&& (2147483647 : Int32)) % (63 : Int32)) + (1 : Int32)) &&& (32 : Int32)) (pt := 262) (q := 253) (by decide) (by decide) rfl rfl (fun (c90 : ((((p1 &&& (2147483647 : Int32)) % (63 : Int32)) + (1 : Int32)) &&& (32 : Int32)) = (0 : Int32)) => ?_) (fun (c90 : ¬ (((((p1 &&& (2147483647 : Int32)) % (63 : Int32)) + (1 : Int32)) &&& (32 : Int32)) = (0 : Int32))) => ?_)
            · exact False.elim (own_zero hM c85 c86 c87 c88 c89 c90)
            · refine own_aload X683 hx (hb hby at_253) (q := 255) rfl rfl rfl ?_
              refine own_iload X683 hx (hb hby at_255) (q := 257) rfl rfl ?_
              refine own_iconst X683 hx (v := (5 : Int32)) (hb hby at_257) (q := 258) rfl rfl ?_
              refine own_iastore X683 hx hZ (i := 0) e684 A689 (by decide) (by decide) (Nat.le_of_ble_eq_true rfl) (hb hby at_258) (q := 259) rfl (fun T1250 h1253 X1251 e1252 W1254 A1255 => ?_)
              replace A1255 : own_A Z h1253 a686 .int [.int (5 : Int32), .int (0 : Int32), .int (0 : Int32), .int (0 : Int32), .int (0 : Int32), .int (0 : Int32)] := A1255
              have A1256 := A690.other W1254 ne693
              have A1257 := A691.other W1254 ne694
              have A1258 := A692.other W1254 ne695
              have Z1259 : n0 ≤ h1253.size := W1254.size ▸ Z697
              have N1260 := Fr.snoc X1251 N681 Z696
              refine own_iinc (L' := #[.val (.int p1), .val (.long q2), .second, .val (.long q3), .second, .val (.long q4), .second, .val (.int (((p1 &&& (2147483647 : Int32)) % (63 : Int32)) + (1 : Int32))), .val (.ref a488), .val (.ref a546), .val (.ref a612), .val (.ref a686), .val (.int ((0 : Int32) + (1 : Int32))), .unset, .unset]) X1251 hx (v := (1 : Int32)) (hb hby at_259) (q := 262) rfl rfl rfl rfl ?_
              rw [show ((0 : Int32) + (1 : Int32) : Int32) = (1 : Int32) from by decide]
              exact J1 _ _ _ _ _ _ _ _ _ _ X1251 e1252 A1256 A1257 A1258 A1255 Z1259 N1260 (by unfold own_S1; decide)
          · refine own_aload X683 hx (hb hby at_236) (q := 238) rfl rfl rfl ?_
            refine own_iload X683 hx (hb hby at_238) (q := 240) rfl rfl ?_
            refine own_iconst X683 hx (v := (4 : Int32)) (hb hby at_240) (q := 241) rfl rfl ?_
            refine own_iastore X683 hx hZ (i := 0) e684 A689 (by decide) (by decide) (Nat.le_of_ble_eq_true rfl) (hb hby at_241) (q := 242) rfl (fun T1261 h1264 X1262 e1263 W1265 A1266 => ?_)
            replace A1266 : own_A Z h1264 a686 .int [.int (4 : Int32), .int (0 : Int32), .int (0 : Int32), .int (0 : Int32), .int (0 : Int32), .int (0 : Int32)] := A1266
            have A1267 := A690.other W1265 ne693
            have A1268 := A691.other W1265 ne694
            have A1269 := A692.other W1265 ne695
            have Z1270 : n0 ≤ h1264.size := W1265.size ▸ Z697
            have N1271 := Fr.snoc X1262 N681 Z696
            refine own_iinc (L' := #[.val (.int p1), .val (.long q2), .second, .val (.long q3), .second, .val (.long q4), .second, .val (.int (((p1 &&& (2147483647 : Int32)) % (63 : Int32)) + (1 : Int32))), .val (.ref a488), .val (.ref a546), .val (.ref a612), .val (.ref a686), .val (.int ((0 : Int32) + (1 : Int32))), .unset, .unset]) X1262 hx (v := (1 : Int32)) (hb hby at_242) (q := 245) rfl rfl rfl rfl ?_
            rw [show ((0 : Int32) + (1 : Int32) : Int32) = (1 : Int32) from by decide]
            refine own_iload X1262 hx (hb hby at_245) (q := 247) rfl rfl ?_
            refine own_bipush X1262 hx (v := (32 : Int32)) (hb hby at_247) (q := 249) rfl rfl ?_
            refine own_iand X1262 hx (hb hby at_249) (q := 250) rfl ?_
            refine own_if0P X1262 hx (hb hby at_250) (cd := .eq) (x := (((p1 &&& (2147483647 : Int32)) % (63 : Int32)) + (1 : Int32)) &&& (32 : Int32)) (pt := 262) (q := 253) (by decide) (by decide) rfl rfl (fun (c91 : ((((p1 &&& (2147483647 : Int32)) % (63 : Int32)) + (1 : Int32)) &&& (32 : Int32)) = (0 : Int32)) => ?_) (fun (c91 : ¬ (((((p1 &&& (2147483647 : Int32)) % (63 : Int32)) + (1 : Int32)) &&& (32 : Int32)) = (0 : Int32))) => ?_)
            · exact J1 _ _ _ _ _ _ _ _ _ _ X1262 e1263 A1267 A1268 A1269 A1266 Z1270 N1271 (by unfold own_S1; decide)
            · refine own_aload X1262 hx (hb hby at_253) (q := 255) rfl rfl rfl ?_
              refine own_iload X1262 hx (hb hby at_255) (q := 257) rfl rfl ?_
              refine own_iconst X1262 hx (v := (5 : Int32)) (hb hby at_257) (q := 258) rfl rfl ?_
              refine own_iastore X1262 hx hZ (i := 1) e1263 A1266 (by decide) (by decide) (Nat.le_of_ble_eq_true rfl) (hb hby at_258) (q := 259) rfl (fun T1272 h1275 X1273 e1274 W1276 A1277 => ?_)
              replace A1277 : own_A Z h1275 a686 .int [.int (4 : Int32), .int (5 : Int32), .int (0 : Int32), .int (0 : Int32), .int (0 : Int32), .int (0 : Int32)] := A1277
              have A1278 := A1267.other W1276 ne693
              have A1279 := A1268.other W1276 ne694
              have A1280 := A1269.other W1276 ne695
              have Z1281 : n0 ≤ h1275.size := W1276.size ▸ Z1270
              have N1282 := Fr.snoc X1273 N1271 Z696
              refine own_iinc (L' := #[.val (.int p1), .val (.long q2), .second, .val (.long q3), .second, .val (.long q4), .second, .val (.int (((p1 &&& (2147483647 : Int32)) % (63 : Int32)) + (1 : Int32))), .val (.ref a488), .val (.ref a546), .val (.ref a612), .val (.ref a686), .val (.int ((1 : Int32) + (1 : Int32))), .unset, .unset]) X1273 hx (v := (1 : Int32)) (hb hby at_259) (q := 262) rfl rfl rfl rfl ?_
              rw [show ((1 : Int32) + (1 : Int32) : Int32) = (2 : Int32) from by decide]
              exact J2 _ _ _ _ _ _ _ _ _ _ _ X1273 e1274 A1278 A1279 A1280 A1277 Z1281 N1282 (by unfold own_S2; decide)
        · refine own_aload X683 hx (hb hby at_219) (q := 221) rfl rfl rfl ?_
          refine own_iload X683 hx (hb hby at_221) (q := 223) rfl rfl ?_
          refine own_iconst X683 hx (v := (3 : Int32)) (hb hby at_223) (q := 224) rfl rfl ?_
          refine own_iastore X683 hx hZ (i := 0) e684 A689 (by decide) (by decide) (Nat.le_of_ble_eq_true rfl) (hb hby at_224) (q := 225) rfl (fun T1283 h1286 X1284 e1285 W1287 A1288 => ?_)
          replace A1288 : own_A Z h1286 a686 .int [.int (3 : Int32), .int (0 : Int32), .int (0 : Int32), .int (0 : Int32), .int (0 : Int32), .int (0 : Int32)] := A1288
          have A1289 := A690.other W1287 ne693
          have A1290 := A691.other W1287 ne694
          have A1291 := A692.other W1287 ne695
          have Z1292 : n0 ≤ h1286.size := W1287.size ▸ Z697
          have N1293 := Fr.snoc X1284 N681 Z696
          refine own_iinc (L' := #[.val (.int p1), .val (.long q2), .second, .val (.long q3), .second, .val (.long q4), .second, .val (.int (((p1 &&& (2147483647 : Int32)) % (63 : Int32)) + (1 : Int32))), .val (.ref a488), .val (.ref a546), .val (.ref a612), .val (.ref a686), .val (.int ((0 : Int32) + (1 : Int32))), .unset, .unset]) X1284 hx (v := (1 : Int32)) (hb hby at_225) (q := 228) rfl rfl rfl rfl ?_
          rw [show ((0 : Int32) + (1 : Int32) : Int32) = (1 : Int32) from by decide]
          refine own_iload X1284 hx (hb hby at_228) (q := 230) rfl rfl ?_
          refine own_bipush X1284 hx (v := (16 : Int32)) (hb hby at_230) (q := 232) rfl rfl ?_
          refine own_iand X1284 hx (hb hby at_232) (q := 233) rfl ?_
          refine own_if0P X1284 hx (hb hby at_233) (cd := .eq) (x := (((p1 &&& (2147483647 : Int32)) % (63 : Int32)) + (1 : Int32)) &&& (16 : Int32)) (pt := 245) (q := 236) (by decide) (by decide) rfl rfl (fun (c92 : ((((p1 &&& (2147483647 : Int32)) % (63 : Int32)) + (1 : Int32)) &&& (16 : Int32)) = (0 : Int32)) => ?_) (fun (c92 : ¬ (((((p1 &&& (2147483647 : Int32)) % (63 : Int32)) + (1 : Int32)) &&& (16 : Int32)) = (0 : Int32))) => ?_)
          · refine own_iload X1284 hx (hb hby at_245) (q := 247) rfl rfl ?_
            refine own_bipush X1284 hx (v := (32 : Int32)) (hb hby at_247) (q := 249) rfl rfl ?_
            refine own_iand X1284 hx (hb hby at_249) (q := 250) rfl ?_
            refine own_if0P X1284 hx (hb hby at_250) (cd := .eq) (x := (((p1 &&& (2147483647 : Int32)) % (63 : Int32)) + (1 : Int32)) &&& (32 : Int32)) (pt := 262) (q := 253) (by decide) (by decide) rfl rfl (fun (c93 : ((((p1 &&& (2147483647 : Int32)) % (63 : Int32)) + (1 : Int32)) &&& (32 : Int32)) = (0 : Int32)) => ?_) (fun (c93 : ¬ (((((p1 &&& (2147483647 : Int32)) % (63 : Int32)) + (1 : Int32)) &&& (32 : Int32)) = (0 : Int32))) => ?_)
            · exact J1 _ _ _ _ _ _ _ _ _ _ X1284 e1285 A1289 A1290 A1291 A1288 Z1292 N1293 (by unfold own_S1; decide)
            · refine own_aload X1284 hx (hb hby at_253) (q := 255) rfl rfl rfl ?_
              refine own_iload X1284 hx (hb hby at_255) (q := 257) rfl rfl ?_
              refine own_iconst X1284 hx (v := (5 : Int32)) (hb hby at_257) (q := 258) rfl rfl ?_
              refine own_iastore X1284 hx hZ (i := 1) e1285 A1288 (by decide) (by decide) (Nat.le_of_ble_eq_true rfl) (hb hby at_258) (q := 259) rfl (fun T1294 h1297 X1295 e1296 W1298 A1299 => ?_)
              replace A1299 : own_A Z h1297 a686 .int [.int (3 : Int32), .int (5 : Int32), .int (0 : Int32), .int (0 : Int32), .int (0 : Int32), .int (0 : Int32)] := A1299
              have A1300 := A1289.other W1298 ne693
              have A1301 := A1290.other W1298 ne694
              have A1302 := A1291.other W1298 ne695
              have Z1303 : n0 ≤ h1297.size := W1298.size ▸ Z1292
              have N1304 := Fr.snoc X1295 N1293 Z696
              refine own_iinc (L' := #[.val (.int p1), .val (.long q2), .second, .val (.long q3), .second, .val (.long q4), .second, .val (.int (((p1 &&& (2147483647 : Int32)) % (63 : Int32)) + (1 : Int32))), .val (.ref a488), .val (.ref a546), .val (.ref a612), .val (.ref a686), .val (.int ((1 : Int32) + (1 : Int32))), .unset, .unset]) X1295 hx (v := (1 : Int32)) (hb hby at_259) (q := 262) rfl rfl rfl rfl ?_
              rw [show ((1 : Int32) + (1 : Int32) : Int32) = (2 : Int32) from by decide]
              exact J2 _ _ _ _ _ _ _ _ _ _ _ X1295 e1296 A1300 A1301 A1302 A1299 Z1303 N1304 (by unfold own_S2; decide)
          · refine own_aload X1284 hx (hb hby at_236) (q := 238) rfl rfl rfl ?_
            refine own_iload X1284 hx (hb hby at_238) (q := 240) rfl rfl ?_
            refine own_iconst X1284 hx (v := (4 : Int32)) (hb hby at_240) (q := 241) rfl rfl ?_
            refine own_iastore X1284 hx hZ (i := 1) e1285 A1288 (by decide) (by decide) (Nat.le_of_ble_eq_true rfl) (hb hby at_241) (q := 242) rfl (fun T1305 h1308 X1306 e1307 W1309 A1310 => ?_)
            replace A1310 : own_A Z h1308 a686 .int [.int (3 : Int32), .int (4 : Int32), .int (0 : Int32), .int (0 : Int32), .int (0 : Int32), .int (0 : Int32)] := A1310
            have A1311 := A1289.other W1309 ne693
            have A1312 := A1290.other W1309 ne694
            have A1313 := A1291.other W1309 ne695
            have Z1314 : n0 ≤ h1308.size := W1309.size ▸ Z1292
            have N1315 := Fr.snoc X1306 N1293 Z696
            refine own_iinc (L' := #[.val (.int p1), .val (.long q2), .second, .val (.long q3), .second, .val (.long q4), .second, .val (.int (((p1 &&& (2147483647 : Int32)) % (63 : Int32)) + (1 : Int32))), .val (.ref a488), .val (.ref a546), .val (.ref a612), .val (.ref a686), .val (.int ((1 : Int32) + (1 : Int32))), .unset, .unset]) X1306 hx (v := (1 : Int32)) (hb hby at_242) (q := 245) rfl rfl rfl rfl ?_
            rw [show ((1 : Int32) + (1 : Int32) : Int32) = (2 : Int32) from by decide]
            refine own_iload X1306 hx (hb hby at_245) (q := 247) rfl rfl ?_
            refine own_bipush X1306 hx (v := (32 : Int32)) (hb hby at_247) (q := 249) rfl rfl ?_
            refine own_iand X1306 hx (hb hby at_249) (q := 250) rfl ?_
            refine own_if0P X1306 hx (hb hby at_250) (cd := .eq) (x := (((p1 &&& (2147483647 : Int32)) % (63 : Int32)) + (1 : Int32)) &&& (32 : Int32)) (pt := 262) (q := 253) (by decide) (by decide) rfl rfl (fun (c94 : ((((p1 &&& (2147483647 : Int32)) % (63 : Int32)) + (1 : Int32)) &&& (32 : Int32)) = (0 : Int32)) => ?_) (fun (c94 : ¬ (((((p1 &&& (2147483647 : Int32)) % (63 : Int32)) + (1 : Int32)) &&& (32 : Int32)) = (0 : Int32))) => ?_)
            · exact J2 _ _ _ _ _ _ _ _ _ _ _ X1306 e1307 A1311 A1312 A1313 A1310 Z1314 N1315 (by unfold own_S2; decide)
            · refine own_aload X1306 hx (hb hby at_253) (q := 255) rfl rfl rfl ?_
              refine own_iload X1306 hx (hb hby at_255) (q := 257) rfl rfl ?_
              refine own_iconst X1306 hx (v := (5 : Int32)) (hb hby at_257) (q := 258) rfl rfl ?_
              refine own_iastore X1306 hx hZ (i := 2) e1307 A1310 (by decide) (by decide) (Nat.le_of_ble_eq_true rfl) (hb hby at_258) (q := 259) rfl (fun T1316 h1319 X1317 e1318 W1320 A1321 => ?_)
              replace A1321 : own_A Z h1319 a686 .int [.int (3 : Int32), .int (4 : Int32), .int (5 : Int32), .int (0 : Int32), .int (0 : Int32), .int (0 : Int32)] := A1321
              have A1322 := A1311.other W1320 ne693
              have A1323 := A1312.other W1320 ne694
              have A1324 := A1313.other W1320 ne695
              have Z1325 : n0 ≤ h1319.size := W1320.size ▸ Z1314
              have N1326 := Fr.snoc X1317 N1315 Z696
              refine own_iinc (L' := #[.val (.int p1), .val (.long q2), .second, .val (.long q3), .second, .val (.long q4), .second, .val (.int (((p1 &&& (2147483647 : Int32)) % (63 : Int32)) + (1 : Int32))), .val (.ref a488), .val (.ref a546), .val (.ref a612), .val (.ref a686), .val (.int ((2 : Int32) + (1 : Int32))), .unset, .unset]) X1317 hx (v := (1 : Int32)) (hb hby at_259) (q := 262) rfl rfl rfl rfl ?_
              rw [show ((2 : Int32) + (1 : Int32) : Int32) = (3 : Int32) from by decide]
              exact J3 _ _ _ _ _ _ _ _ _ _ _ _ X1317 e1318 A1322 A1323 A1324 A1321 Z1325 N1326 (by unfold own_S3; decide)
      · refine own_aload X683 hx (hb hby at_202) (q := 204) rfl rfl rfl ?_
        refine own_iload X683 hx (hb hby at_204) (q := 206) rfl rfl ?_
        refine own_iconst X683 hx (v := (2 : Int32)) (hb hby at_206) (q := 207) rfl rfl ?_
        refine own_iastore X683 hx hZ (i := 0) e684 A689 (by decide) (by decide) (Nat.le_of_ble_eq_true rfl) (hb hby at_207) (q := 208) rfl (fun T1327 h1330 X1328 e1329 W1331 A1332 => ?_)
        replace A1332 : own_A Z h1330 a686 .int [.int (2 : Int32), .int (0 : Int32), .int (0 : Int32), .int (0 : Int32), .int (0 : Int32), .int (0 : Int32)] := A1332
        have A1333 := A690.other W1331 ne693
        have A1334 := A691.other W1331 ne694
        have A1335 := A692.other W1331 ne695
        have Z1336 : n0 ≤ h1330.size := W1331.size ▸ Z697
        have N1337 := Fr.snoc X1328 N681 Z696
        refine own_iinc (L' := #[.val (.int p1), .val (.long q2), .second, .val (.long q3), .second, .val (.long q4), .second, .val (.int (((p1 &&& (2147483647 : Int32)) % (63 : Int32)) + (1 : Int32))), .val (.ref a488), .val (.ref a546), .val (.ref a612), .val (.ref a686), .val (.int ((0 : Int32) + (1 : Int32))), .unset, .unset]) X1328 hx (v := (1 : Int32)) (hb hby at_208) (q := 211) rfl rfl rfl rfl ?_
        rw [show ((0 : Int32) + (1 : Int32) : Int32) = (1 : Int32) from by decide]
        refine own_iload X1328 hx (hb hby at_211) (q := 213) rfl rfl ?_
        refine own_bipush X1328 hx (v := (8 : Int32)) (hb hby at_213) (q := 215) rfl rfl ?_
        refine own_iand X1328 hx (hb hby at_215) (q := 216) rfl ?_
        refine own_if0P X1328 hx (hb hby at_216) (cd := .eq) (x := (((p1 &&& (2147483647 : Int32)) % (63 : Int32)) + (1 : Int32)) &&& (8 : Int32)) (pt := 228) (q := 219) (by decide) (by decide) rfl rfl (fun (c95 : ((((p1 &&& (2147483647 : Int32)) % (63 : Int32)) + (1 : Int32)) &&& (8 : Int32)) = (0 : Int32)) => ?_) (fun (c95 : ¬ (((((p1 &&& (2147483647 : Int32)) % (63 : Int32)) + (1 : Int32)) &&& (8 : Int32)) = (0 : Int32))) => ?_)
        · refine own_iload X1328 hx (hb hby at_228) (q := 230) rfl rfl ?_
          refine own_bipush X1328 hx (v := (16 : Int32)) (hb hby at_230) (q := 232) rfl rfl ?_
          refine own_iand X1328 hx (hb hby at_232) (q := 233) rfl ?_
          refine own_if0P X1328 hx (hb hby at_233) (cd := .eq) (x := (((p1 &&& (2147483647 : Int32)) % (63 : Int32)) + (1 : Int32)) &&& (16 : Int32)) (pt := 245) (q := 236) (by decide) (by decide) rfl rfl (fun (c96 : ((((p1 &&& (2147483647 : Int32)) % (63 : Int32)) + (1 : Int32)) &&& (16 : Int32)) = (0 : Int32)) => ?_) (fun (c96 : ¬ (((((p1 &&& (2147483647 : Int32)) % (63 : Int32)) + (1 : Int32)) &&& (16 : Int32)) = (0 : Int32))) => ?_)
          · refine own_iload X1328 hx (hb hby at_245) (q := 247) rfl rfl ?_
            refine own_bipush X1328 hx (v := (32 : Int32)) (hb hby at_247) (q := 249) rfl rfl ?_
            refine own_iand X1328 hx (hb hby at_249) (q := 250) rfl ?_
            refine own_if0P X1328 hx (hb hby at_250) (cd := .eq) (x := (((p1 &&& (2147483647 : Int32)) % (63 : Int32)) + (1 : Int32)) &&& (32 : Int32)) (pt := 262) (q := 253) (by decide) (by decide) rfl rfl (fun (c97 : ((((p1 &&& (2147483647 : Int32)) % (63 : Int32)) + (1 : Int32)) &&& (32 : Int32)) = (0 : Int32)) => ?_) (fun (c97 : ¬ (((((p1 &&& (2147483647 : Int32)) % (63 : Int32)) + (1 : Int32)) &&& (32 : Int32)) = (0 : Int32))) => ?_)
            · exact J1 _ _ _ _ _ _ _ _ _ _ X1328 e1329 A1333 A1334 A1335 A1332 Z1336 N1337 (by unfold own_S1; decide)
            · refine own_aload X1328 hx (hb hby at_253) (q := 255) rfl rfl rfl ?_
              refine own_iload X1328 hx (hb hby at_255) (q := 257) rfl rfl ?_
              refine own_iconst X1328 hx (v := (5 : Int32)) (hb hby at_257) (q := 258) rfl rfl ?_
              refine own_iastore X1328 hx hZ (i := 1) e1329 A1332 (by decide) (by decide) (Nat.le_of_ble_eq_true rfl) (hb hby at_258) (q := 259) rfl (fun T1338 h1341 X1339 e1340 W1342 A1343 => ?_)
              replace A1343 : own_A Z h1341 a686 .int [.int (2 : Int32), .int (5 : Int32), .int (0 : Int32), .int (0 : Int32), .int (0 : Int32), .int (0 : Int32)] := A1343
              have A1344 := A1333.other W1342 ne693
              have A1345 := A1334.other W1342 ne694
              have A1346 := A1335.other W1342 ne695
              have Z1347 : n0 ≤ h1341.size := W1342.size ▸ Z1336
              have N1348 := Fr.snoc X1339 N1337 Z696
              refine own_iinc (L' := #[.val (.int p1), .val (.long q2), .second, .val (.long q3), .second, .val (.long q4), .second, .val (.int (((p1 &&& (2147483647 : Int32)) % (63 : Int32)) + (1 : Int32))), .val (.ref a488), .val (.ref a546), .val (.ref a612), .val (.ref a686), .val (.int ((1 : Int32) + (1 : Int32))), .unset, .unset]) X1339 hx (v := (1 : Int32)) (hb hby at_259) (q := 262) rfl rfl rfl rfl ?_
              rw [show ((1 : Int32) + (1 : Int32) : Int32) = (2 : Int32) from by decide]
              exact J2 _ _ _ _ _ _ _ _ _ _ _ X1339 e1340 A1344 A1345 A1346 A1343 Z1347 N1348 (by unfold own_S2; decide)
          · refine own_aload X1328 hx (hb hby at_236) (q := 238) rfl rfl rfl ?_
            refine own_iload X1328 hx (hb hby at_238) (q := 240) rfl rfl ?_
            refine own_iconst X1328 hx (v := (4 : Int32)) (hb hby at_240) (q := 241) rfl rfl ?_
            refine own_iastore X1328 hx hZ (i := 1) e1329 A1332 (by decide) (by decide) (Nat.le_of_ble_eq_true rfl) (hb hby at_241) (q := 242) rfl (fun T1349 h1352 X1350 e1351 W1353 A1354 => ?_)
            replace A1354 : own_A Z h1352 a686 .int [.int (2 : Int32), .int (4 : Int32), .int (0 : Int32), .int (0 : Int32), .int (0 : Int32), .int (0 : Int32)] := A1354
            have A1355 := A1333.other W1353 ne693
            have A1356 := A1334.other W1353 ne694
            have A1357 := A1335.other W1353 ne695
            have Z1358 : n0 ≤ h1352.size := W1353.size ▸ Z1336
            have N1359 := Fr.snoc X1350 N1337 Z696
            refine own_iinc (L' := #[.val (.int p1), .val (.long q2), .second, .val (.long q3), .second, .val (.long q4), .second, .val (.int (((p1 &&& (2147483647 : Int32)) % (63 : Int32)) + (1 : Int32))), .val (.ref a488), .val (.ref a546), .val (.ref a612), .val (.ref a686), .val (.int ((1 : Int32) + (1 : Int32))), .unset, .unset]) X1350 hx (v := (1 : Int32)) (hb hby at_242) (q := 245) rfl rfl rfl rfl ?_
            rw [show ((1 : Int32) + (1 : Int32) : Int32) = (2 : Int32) from by decide]
            refine own_iload X1350 hx (hb hby at_245) (q := 247) rfl rfl ?_
            refine own_bipush X1350 hx (v := (32 : Int32)) (hb hby at_247) (q := 249) rfl rfl ?_
            refine own_iand X1350 hx (hb hby at_249) (q := 250) rfl ?_
            refine own_if0P X1350 hx (hb hby at_250) (cd := .eq) (x := (((p1 &&& (2147483647 : Int32)) % (63 : Int32)) + (1 : Int32)) &&& (32 : Int32)) (pt := 262) (q := 253) (by decide) (by decide) rfl rfl (fun (c98 : ((((p1 &&& (2147483647 : Int32)) % (63 : Int32)) + (1 : Int32)) &&& (32 : Int32)) = (0 : Int32)) => ?_) (fun (c98 : ¬ (((((p1 &&& (2147483647 : Int32)) % (63 : Int32)) + (1 : Int32)) &&& (32 : Int32)) = (0 : Int32))) => ?_)
            · exact J2 _ _ _ _ _ _ _ _ _ _ _ X1350 e1351 A1355 A1356 A1357 A1354 Z1358 N1359 (by unfold own_S2; decide)
            · refine own_aload X1350 hx (hb hby at_253) (q := 255) rfl rfl rfl ?_
              refine own_iload X1350 hx (hb hby at_255) (q := 257) rfl rfl ?_
              refine own_iconst X1350 hx (v := (5 : Int32)) (hb hby at_257) (q := 258) rfl rfl ?_
              refine own_iastore X1350 hx hZ (i := 2) e1351 A1354 (by decide) (by decide) (Nat.le_of_ble_eq_true rfl) (hb hby at_258) (q := 259) rfl (fun T1360 h1363 X1361 e1362 W1364 A1365 => ?_)
              replace A1365 : own_A Z h1363 a686 .int [.int (2 : Int32), .int (4 : Int32), .int (5 : Int32), .int (0 : Int32), .int (0 : Int32), .int (0 : Int32)] := A1365
              have A1366 := A1355.other W1364 ne693
              have A1367 := A1356.other W1364 ne694
              have A1368 := A1357.other W1364 ne695
              have Z1369 : n0 ≤ h1363.size := W1364.size ▸ Z1358
              have N1370 := Fr.snoc X1361 N1359 Z696
              refine own_iinc (L' := #[.val (.int p1), .val (.long q2), .second, .val (.long q3), .second, .val (.long q4), .second, .val (.int (((p1 &&& (2147483647 : Int32)) % (63 : Int32)) + (1 : Int32))), .val (.ref a488), .val (.ref a546), .val (.ref a612), .val (.ref a686), .val (.int ((2 : Int32) + (1 : Int32))), .unset, .unset]) X1361 hx (v := (1 : Int32)) (hb hby at_259) (q := 262) rfl rfl rfl rfl ?_
              rw [show ((2 : Int32) + (1 : Int32) : Int32) = (3 : Int32) from by decide]
              exact J3 _ _ _ _ _ _ _ _ _ _ _ _ X1361 e1362 A1366 A1367 A1368 A1365 Z1369 N1370 (by unfold own_S3; decide)
        · refine own_aload X1328 hx (hb hby at_219) (q := 221) rfl rfl rfl ?_
          refine own_iload X1328 hx (hb hby at_221) (q := 223) rfl rfl ?_
          refine own_iconst X1328 hx (v := (3 : Int32)) (hb hby at_223) (q := 224) rfl rfl ?_
          refine own_iastore X1328 hx hZ (i := 1) e1329 A1332 (by decide) (by decide) (Nat.le_of_ble_eq_true rfl) (hb hby at_224) (q := 225) rfl (fun T1371 h1374 X1372 e1373 W1375 A1376 => ?_)
          replace A1376 : own_A Z h1374 a686 .int [.int (2 : Int32), .int (3 : Int32), .int (0 : Int32), .int (0 : Int32), .int (0 : Int32), .int (0 : Int32)] := A1376
          have A1377 := A1333.other W1375 ne693
          have A1378 := A1334.other W1375 ne694
          have A1379 := A1335.other W1375 ne695
          have Z1380 : n0 ≤ h1374.size := W1375.size ▸ Z1336
          have N1381 := Fr.snoc X1372 N1337 Z696
          refine own_iinc (L' := #[.val (.int p1), .val (.long q2), .second, .val (.long q3), .second, .val (.long q4), .second, .val (.int (((p1 &&& (2147483647 : Int32)) % (63 : Int32)) + (1 : Int32))), .val (.ref a488), .val (.ref a546), .val (.ref a612), .val (.ref a686), .val (.int ((1 : Int32) + (1 : Int32))), .unset, .unset]) X1372 hx (v := (1 : Int32)) (hb hby at_225) (q := 228) rfl rfl rfl rfl ?_
          rw [show ((1 : Int32) + (1 : Int32) : Int32) = (2 : Int32) from by decide]
          refine own_iload X1372 hx (hb hby at_228) (q := 230) rfl rfl ?_
          refine own_bipush X1372 hx (v := (16 : Int32)) (hb hby at_230) (q := 232) rfl rfl ?_
          refine own_iand X1372 hx (hb hby at_232) (q := 233) rfl ?_
          refine own_if0P X1372 hx (hb hby at_233) (cd := .eq) (x := (((p1 &&& (2147483647 : Int32)) % (63 : Int32)) + (1 : Int32)) &&& (16 : Int32)) (pt := 245) (q := 236) (by decide) (by decide) rfl rfl (fun (c99 : ((((p1 &&& (2147483647 : Int32)) % (63 : Int32)) + (1 : Int32)) &&& (16 : Int32)) = (0 : Int32)) => ?_) (fun (c99 : ¬ (((((p1 &&& (2147483647 : Int32)) % (63 : Int32)) + (1 : Int32)) &&& (16 : Int32)) = (0 : Int32))) => ?_)
          · refine own_iload X1372 hx (hb hby at_245) (q := 247) rfl rfl ?_
            refine own_bipush X1372 hx (v := (32 : Int32)) (hb hby at_247) (q := 249) rfl rfl ?_
            refine own_iand X1372 hx (hb hby at_249) (q := 250) rfl ?_
            refine own_if0P X1372 hx (hb hby at_250) (cd := .eq) (x := (((p1 &&& (2147483647 : Int32)) % (63 : Int32)) + (1 : Int32)) &&& (32 : Int32)) (pt := 262) (q := 253) (by decide) (by decide) rfl rfl (fun (c100 : ((((p1 &&& (2147483647 : Int32)) % (63 : Int32)) + (1 : Int32)) &&& (32 : Int32)) = (0 : Int32)) => ?_) (fun (c100 : ¬ (((((p1 &&& (2147483647 : Int32)) % (63 : Int32)) + (1 : Int32)) &&& (32 : Int32)) = (0 : Int32))) => ?_)
            · exact J2 _ _ _ _ _ _ _ _ _ _ _ X1372 e1373 A1377 A1378 A1379 A1376 Z1380 N1381 (by unfold own_S2; decide)
            · refine own_aload X1372 hx (hb hby at_253) (q := 255) rfl rfl rfl ?_
              refine own_iload X1372 hx (hb hby at_255) (q := 257) rfl rfl ?_
              refine own_iconst X1372 hx (v := (5 : Int32)) (hb hby at_257) (q := 258) rfl rfl ?_
              refine own_iastore X1372 hx hZ (i := 2) e1373 A1376 (by decide) (by decide) (Nat.le_of_ble_eq_true rfl) (hb hby at_258) (q := 259) rfl (fun T1382 h1385 X1383 e1384 W1386 A1387 => ?_)
              replace A1387 : own_A Z h1385 a686 .int [.int (2 : Int32), .int (3 : Int32), .int (5 : Int32), .int (0 : Int32), .int (0 : Int32), .int (0 : Int32)] := A1387
              have A1388 := A1377.other W1386 ne693
              have A1389 := A1378.other W1386 ne694
              have A1390 := A1379.other W1386 ne695
              have Z1391 : n0 ≤ h1385.size := W1386.size ▸ Z1380
              have N1392 := Fr.snoc X1383 N1381 Z696
              refine own_iinc (L' := #[.val (.int p1), .val (.long q2), .second, .val (.long q3), .second, .val (.long q4), .second, .val (.int (((p1 &&& (2147483647 : Int32)) % (63 : Int32)) + (1 : Int32))), .val (.ref a488), .val (.ref a546), .val (.ref a612), .val (.ref a686), .val (.int ((2 : Int32) + (1 : Int32))), .unset, .unset]) X1383 hx (v := (1 : Int32)) (hb hby at_259) (q := 262) rfl rfl rfl rfl ?_
              rw [show ((2 : Int32) + (1 : Int32) : Int32) = (3 : Int32) from by decide]
              exact J3 _ _ _ _ _ _ _ _ _ _ _ _ X1383 e1384 A1388 A1389 A1390 A1387 Z1391 N1392 (by unfold own_S3; decide)
          · refine own_aload X1372 hx (hb hby at_236) (q := 238) rfl rfl rfl ?_
            refine own_iload X1372 hx (hb hby at_238) (q := 240) rfl rfl ?_
            refine own_iconst X1372 hx (v := (4 : Int32)) (hb hby at_240) (q := 241) rfl rfl ?_
            refine own_iastore X1372 hx hZ (i := 2) e1373 A1376 (by decide) (by decide) (Nat.le_of_ble_eq_true rfl) (hb hby at_241) (q := 242) rfl (fun T1393 h1396 X1394 e1395 W1397 A1398 => ?_)
            replace A1398 : own_A Z h1396 a686 .int [.int (2 : Int32), .int (3 : Int32), .int (4 : Int32), .int (0 : Int32), .int (0 : Int32), .int (0 : Int32)] := A1398
            have A1399 := A1377.other W1397 ne693
            have A1400 := A1378.other W1397 ne694
            have A1401 := A1379.other W1397 ne695
            have Z1402 : n0 ≤ h1396.size := W1397.size ▸ Z1380
            have N1403 := Fr.snoc X1394 N1381 Z696
            refine own_iinc (L' := #[.val (.int p1), .val (.long q2), .second, .val (.long q3), .second, .val (.long q4), .second, .val (.int (((p1 &&& (2147483647 : Int32)) % (63 : Int32)) + (1 : Int32))), .val (.ref a488), .val (.ref a546), .val (.ref a612), .val (.ref a686), .val (.int ((2 : Int32) + (1 : Int32))), .unset, .unset]) X1394 hx (v := (1 : Int32)) (hb hby at_242) (q := 245) rfl rfl rfl rfl ?_
            rw [show ((2 : Int32) + (1 : Int32) : Int32) = (3 : Int32) from by decide]
            refine own_iload X1394 hx (hb hby at_245) (q := 247) rfl rfl ?_
            refine own_bipush X1394 hx (v := (32 : Int32)) (hb hby at_247) (q := 249) rfl rfl ?_
            refine own_iand X1394 hx (hb hby at_249) (q := 250) rfl ?_
            refine own_if0P X1394 hx (hb hby at_250) (cd := .eq) (x := (((p1 &&& (2147483647 : Int32)) % (63 : Int32)) + (1 : Int32)) &&& (32 : Int32)) (pt := 262) (q := 253) (by decide) (by decide) rfl rfl (fun (c101 : ((((p1 &&& (2147483647 : Int32)) % (63 : Int32)) + (1 : Int32)) &&& (32 : Int32)) = (0 : Int32)) => ?_) (fun (c101 : ¬ (((((p1 &&& (2147483647 : Int32)) % (63 : Int32)) + (1 : Int32)) &&& (32 : Int32)) = (0 : Int32))) => ?_)
            · exact J3 _ _ _ _ _ _ _ _ _ _ _ _ X1394 e1395 A1399 A1400 A1401 A1398 Z1402 N1403 (by unfold own_S3; decide)
            · refine own_aload X1394 hx (hb hby at_253) (q := 255) rfl rfl rfl ?_
              refine own_iload X1394 hx (hb hby at_255) (q := 257) rfl rfl ?_
              refine own_iconst X1394 hx (v := (5 : Int32)) (hb hby at_257) (q := 258) rfl rfl ?_
              refine own_iastore X1394 hx hZ (i := 3) e1395 A1398 (by decide) (by decide) (Nat.le_of_ble_eq_true rfl) (hb hby at_258) (q := 259) rfl (fun T1404 h1407 X1405 e1406 W1408 A1409 => ?_)
              replace A1409 : own_A Z h1407 a686 .int [.int (2 : Int32), .int (3 : Int32), .int (4 : Int32), .int (5 : Int32), .int (0 : Int32), .int (0 : Int32)] := A1409
              have A1410 := A1399.other W1408 ne693
              have A1411 := A1400.other W1408 ne694
              have A1412 := A1401.other W1408 ne695
              have Z1413 : n0 ≤ h1407.size := W1408.size ▸ Z1402
              have N1414 := Fr.snoc X1405 N1403 Z696
              refine own_iinc (L' := #[.val (.int p1), .val (.long q2), .second, .val (.long q3), .second, .val (.long q4), .second, .val (.int (((p1 &&& (2147483647 : Int32)) % (63 : Int32)) + (1 : Int32))), .val (.ref a488), .val (.ref a546), .val (.ref a612), .val (.ref a686), .val (.int ((3 : Int32) + (1 : Int32))), .unset, .unset]) X1405 hx (v := (1 : Int32)) (hb hby at_259) (q := 262) rfl rfl rfl rfl ?_
              rw [show ((3 : Int32) + (1 : Int32) : Int32) = (4 : Int32) from by decide]
              exact J4 _ _ _ _ _ _ _ _ _ _ _ _ _ X1405 e1406 A1410 A1411 A1412 A1409 Z1413 N1414 (by unfold own_S4; decide)
    · refine own_aload X683 hx (hb hby at_186) (q := 188) rfl rfl rfl ?_
      refine own_iload X683 hx (hb hby at_188) (q := 190) rfl rfl ?_
      refine own_iconst X683 hx (v := (1 : Int32)) (hb hby at_190) (q := 191) rfl rfl ?_
      refine own_iastore X683 hx hZ (i := 0) e684 A689 (by decide) (by decide) (Nat.le_of_ble_eq_true rfl) (hb hby at_191) (q := 192) rfl (fun T1415 h1418 X1416 e1417 W1419 A1420 => ?_)
      replace A1420 : own_A Z h1418 a686 .int [.int (1 : Int32), .int (0 : Int32), .int (0 : Int32), .int (0 : Int32), .int (0 : Int32), .int (0 : Int32)] := A1420
      have A1421 := A690.other W1419 ne693
      have A1422 := A691.other W1419 ne694
      have A1423 := A692.other W1419 ne695
      have Z1424 : n0 ≤ h1418.size := W1419.size ▸ Z697
      have N1425 := Fr.snoc X1416 N681 Z696
      refine own_iinc (L' := #[.val (.int p1), .val (.long q2), .second, .val (.long q3), .second, .val (.long q4), .second, .val (.int (((p1 &&& (2147483647 : Int32)) % (63 : Int32)) + (1 : Int32))), .val (.ref a488), .val (.ref a546), .val (.ref a612), .val (.ref a686), .val (.int ((0 : Int32) + (1 : Int32))), .unset, .unset]) X1416 hx (v := (1 : Int32)) (hb hby at_192) (q := 195) rfl rfl rfl rfl ?_
      rw [show ((0 : Int32) + (1 : Int32) : Int32) = (1 : Int32) from by decide]
      refine own_iload X1416 hx (hb hby at_195) (q := 197) rfl rfl ?_
      refine own_iconst X1416 hx (v := (4 : Int32)) (hb hby at_197) (q := 198) rfl rfl ?_
      refine own_iand X1416 hx (hb hby at_198) (q := 199) rfl ?_
      refine own_if0P X1416 hx (hb hby at_199) (cd := .eq) (x := (((p1 &&& (2147483647 : Int32)) % (63 : Int32)) + (1 : Int32)) &&& (4 : Int32)) (pt := 211) (q := 202) (by decide) (by decide) rfl rfl (fun (c102 : ((((p1 &&& (2147483647 : Int32)) % (63 : Int32)) + (1 : Int32)) &&& (4 : Int32)) = (0 : Int32)) => ?_) (fun (c102 : ¬ (((((p1 &&& (2147483647 : Int32)) % (63 : Int32)) + (1 : Int32)) &&& (4 : Int32)) = (0 : Int32))) => ?_)
      · refine own_iload X1416 hx (hb hby at_211) (q := 213) rfl rfl ?_
        refine own_bipush X1416 hx (v := (8 : Int32)) (hb hby at_213) (q := 215) rfl rfl ?_
        refine own_iand X1416 hx (hb hby at_215) (q := 216) rfl ?_
        refine own_if0P X1416 hx (hb hby at_216) (cd := .eq) (x := (((p1 &&& (2147483647 : Int32)) % (63 : Int32)) + (1 : Int32)) &&& (8 : Int32)) (pt := 228) (q := 219) (by decide) (by decide) rfl rfl (fun (c103 : ((((p1 &&& (2147483647 : Int32)) % (63 : Int32)) + (1 : Int32)) &&& (8 : Int32)) = (0 : Int32)) => ?_) (fun (c103 : ¬ (((((p1 &&& (2147483647 : Int32)) % (63 : Int32)) + (1 : Int32)) &&& (8 : Int32)) = (0 : Int32))) => ?_)
        · refine own_iload X1416 hx (hb hby at_228) (q := 230) rfl rfl ?_
          refine own_bipush X1416 hx (v := (16 : Int32)) (hb hby at_230) (q := 232) rfl rfl ?_
          refine own_iand X1416 hx (hb hby at_232) (q := 233) rfl ?_
          refine own_if0P X1416 hx (hb hby at_233) (cd := .eq) (x := (((p1 &&& (2147483647 : Int32)) % (63 : Int32)) + (1 : Int32)) &&& (16 : Int32)) (pt := 245) (q := 236) (by decide) (by decide) rfl rfl (fun (c104 : ((((p1 &&& (2147483647 : Int32)) % (63 : Int32)) + (1 : Int32)) &&& (16 : Int32)) = (0 : Int32)) => ?_) (fun (c104 : ¬ (((((p1 &&& (2147483647 : Int32)) % (63 : Int32)) + (1 : Int32)) &&& (16 : Int32)) = (0 : Int32))) => ?_)
          · refine own_iload X1416 hx (hb hby at_245) (q := 247) rfl rfl ?_
            refine own_bipush X1416 hx (v := (32 : Int32)) (hb hby at_247) (q := 249) rfl rfl ?_
            refine own_iand X1416 hx (hb hby at_249) (q := 250) rfl ?_
            refine own_if0P X1416 hx (hb hby at_250) (cd := .eq) (x := (((p1 &&& (2147483647 : Int32)) % (63 : Int32)) + (1 : Int32)) &&& (32 : Int32)) (pt := 262) (q := 253) (by decide) (by decide) rfl rfl (fun (c105 : ((((p1 &&& (2147483647 : Int32)) % (63 : Int32)) + (1 : Int32)) &&& (32 : Int32)) = (0 : Int32)) => ?_) (fun (c105 : ¬ (((((p1 &&& (2147483647 : Int32)) % (63 : Int32)) + (1 : Int32)) &&& (32 : Int32)) = (0 : Int32))) => ?_)
            · exact J1 _ _ _ _ _ _ _ _ _ _ X1416 e1417 A1421 A1422 A1423 A1420 Z1424 N1425 (by unfold own_S1; decide)
            · refine own_aload X1416 hx (hb hby at_253) (q := 255) rfl rfl rfl ?_
              refine own_iload X1416 hx (hb hby at_255) (q := 257) rfl rfl ?_
              refine own_iconst X1416 hx (v := (5 : Int32)) (hb hby at_257) (q := 258) rfl rfl ?_
              refine own_iastore X1416 hx hZ (i := 1) e1417 A1420 (by decide) (by decide) (Nat.le_of_ble_eq_true rfl) (hb hby at_258) (q := 259) rfl (fun T1426 h1429 X1427 e1428 W1430 A1431 => ?_)
              replace A1431 : own_A Z h1429 a686 .int [.int (1 : Int32), .int (5 : Int32), .int (0 : Int32), .int (0 : Int32), .int (0 : Int32), .int (0 : Int32)] := A1431
              have A1432 := A1421.other W1430 ne693
              have A1433 := A1422.other W1430 ne694
              have A1434 := A1423.other W1430 ne695
              have Z1435 : n0 ≤ h1429.size := W1430.size ▸ Z1424
              have N1436 := Fr.snoc X1427 N1425 Z696
              refine own_iinc (L' := #[.val (.int p1), .val (.long q2), .second, .val (.long q3), .second, .val (.long q4), .second, .val (.int (((p1 &&& (2147483647 : Int32)) % (63 : Int32)) + (1 : Int32))), .val (.ref a488), .val (.ref a546), .val (.ref a612), .val (.ref a686), .val (.int ((1 : Int32) + (1 : Int32))), .unset, .unset]) X1427 hx (v := (1 : Int32)) (hb hby at_259) (q := 262) rfl rfl rfl rfl ?_
              rw [show ((1 : Int32) + (1 : Int32) : Int32) = (2 : Int32) from by decide]
              exact J2 _ _ _ _ _ _ _ _ _ _ _ X1427 e1428 A1432 A1433 A1434 A1431 Z1435 N1436 (by unfold own_S2; decide)
          · refine own_aload X1416 hx (hb hby at_236) (q := 238) rfl rfl rfl ?_
            refine own_iload X1416 hx (hb hby at_238) (q := 240) rfl rfl ?_
            refine own_iconst X1416 hx (v := (4 : Int32)) (hb hby at_240) (q := 241) rfl rfl ?_
            refine own_iastore X1416 hx hZ (i := 1) e1417 A1420 (by decide) (by decide) (Nat.le_of_ble_eq_true rfl) (hb hby at_241) (q := 242) rfl (fun T1437 h1440 X1438 e1439 W1441 A1442 => ?_)
            replace A1442 : own_A Z h1440 a686 .int [.int (1 : Int32), .int (4 : Int32), .int (0 : Int32), .int (0 : Int32), .int (0 : Int32), .int (0 : Int32)] := A1442
            have A1443 := A1421.other W1441 ne693
            have A1444 := A1422.other W1441 ne694
            have A1445 := A1423.other W1441 ne695
            have Z1446 : n0 ≤ h1440.size := W1441.size ▸ Z1424
            have N1447 := Fr.snoc X1438 N1425 Z696
            refine own_iinc (L' := #[.val (.int p1), .val (.long q2), .second, .val (.long q3), .second, .val (.long q4), .second, .val (.int (((p1 &&& (2147483647 : Int32)) % (63 : Int32)) + (1 : Int32))), .val (.ref a488), .val (.ref a546), .val (.ref a612), .val (.ref a686), .val (.int ((1 : Int32) + (1 : Int32))), .unset, .unset]) X1438 hx (v := (1 : Int32)) (hb hby at_242) (q := 245) rfl rfl rfl rfl ?_
            rw [show ((1 : Int32) + (1 : Int32) : Int32) = (2 : Int32) from by decide]
            refine own_iload X1438 hx (hb hby at_245) (q := 247) rfl rfl ?_
            refine own_bipush X1438 hx (v := (32 : Int32)) (hb hby at_247) (q := 249) rfl rfl ?_
            refine own_iand X1438 hx (hb hby at_249) (q := 250) rfl ?_
            refine own_if0P X1438 hx (hb hby at_250) (cd := .eq) (x := (((p1 &&& (2147483647 : Int32)) % (63 : Int32)) + (1 : Int32)) &&& (32 : Int32)) (pt := 262) (q := 253) (by decide) (by decide) rfl rfl (fun (c106 : ((((p1 &&& (2147483647 : Int32)) % (63 : Int32)) + (1 : Int32)) &&& (32 : Int32)) = (0 : Int32)) => ?_) (fun (c106 : ¬ (((((p1 &&& (2147483647 : Int32)) % (63 : Int32)) + (1 : Int32)) &&& (32 : Int32)) = (0 : Int32))) => ?_)
            · exact J2 _ _ _ _ _ _ _ _ _ _ _ X1438 e1439 A1443 A1444 A1445 A1442 Z1446 N1447 (by unfold own_S2; decide)
            · refine own_aload X1438 hx (hb hby at_253) (q := 255) rfl rfl rfl ?_
              refine own_iload X1438 hx (hb hby at_255) (q := 257) rfl rfl ?_
              refine own_iconst X1438 hx (v := (5 : Int32)) (hb hby at_257) (q := 258) rfl rfl ?_
              refine own_iastore X1438 hx hZ (i := 2) e1439 A1442 (by decide) (by decide) (Nat.le_of_ble_eq_true rfl) (hb hby at_258) (q := 259) rfl (fun T1448 h1451 X1449 e1450 W1452 A1453 => ?_)
              replace A1453 : own_A Z h1451 a686 .int [.int (1 : Int32), .int (4 : Int32), .int (5 : Int32), .int (0 : Int32), .int (0 : Int32), .int (0 : Int32)] := A1453
              have A1454 := A1443.other W1452 ne693
              have A1455 := A1444.other W1452 ne694
              have A1456 := A1445.other W1452 ne695
              have Z1457 : n0 ≤ h1451.size := W1452.size ▸ Z1446
              have N1458 := Fr.snoc X1449 N1447 Z696
              refine own_iinc (L' := #[.val (.int p1), .val (.long q2), .second, .val (.long q3), .second, .val (.long q4), .second, .val (.int (((p1 &&& (2147483647 : Int32)) % (63 : Int32)) + (1 : Int32))), .val (.ref a488), .val (.ref a546), .val (.ref a612), .val (.ref a686), .val (.int ((2 : Int32) + (1 : Int32))), .unset, .unset]) X1449 hx (v := (1 : Int32)) (hb hby at_259) (q := 262) rfl rfl rfl rfl ?_
              rw [show ((2 : Int32) + (1 : Int32) : Int32) = (3 : Int32) from by decide]
              exact J3 _ _ _ _ _ _ _ _ _ _ _ _ X1449 e1450 A1454 A1455 A1456 A1453 Z1457 N1458 (by unfold own_S3; decide)
        · refine own_aload X1416 hx (hb hby at_219) (q := 221) rfl rfl rfl ?_
          refine own_iload X1416 hx (hb hby at_221) (q := 223) rfl rfl ?_
          refine own_iconst X1416 hx (v := (3 : Int32)) (hb hby at_223) (q := 224) rfl rfl ?_
          refine own_iastore X1416 hx hZ (i := 1) e1417 A1420 (by decide) (by decide) (Nat.le_of_ble_eq_true rfl) (hb hby at_224) (q := 225) rfl (fun T1459 h1462 X1460 e1461 W1463 A1464 => ?_)
          replace A1464 : own_A Z h1462 a686 .int [.int (1 : Int32), .int (3 : Int32), .int (0 : Int32), .int (0 : Int32), .int (0 : Int32), .int (0 : Int32)] := A1464
          have A1465 := A1421.other W1463 ne693
          have A1466 := A1422.other W1463 ne694
          have A1467 := A1423.other W1463 ne695
          have Z1468 : n0 ≤ h1462.size := W1463.size ▸ Z1424
          have N1469 := Fr.snoc X1460 N1425 Z696
          refine own_iinc (L' := #[.val (.int p1), .val (.long q2), .second, .val (.long q3), .second, .val (.long q4), .second, .val (.int (((p1 &&& (2147483647 : Int32)) % (63 : Int32)) + (1 : Int32))), .val (.ref a488), .val (.ref a546), .val (.ref a612), .val (.ref a686), .val (.int ((1 : Int32) + (1 : Int32))), .unset, .unset]) X1460 hx (v := (1 : Int32)) (hb hby at_225) (q := 228) rfl rfl rfl rfl ?_
          rw [show ((1 : Int32) + (1 : Int32) : Int32) = (2 : Int32) from by decide]
          refine own_iload X1460 hx (hb hby at_228) (q := 230) rfl rfl ?_
          refine own_bipush X1460 hx (v := (16 : Int32)) (hb hby at_230) (q := 232) rfl rfl ?_
          refine own_iand X1460 hx (hb hby at_232) (q := 233) rfl ?_
          refine own_if0P X1460 hx (hb hby at_233) (cd := .eq) (x := (((p1 &&& (2147483647 : Int32)) % (63 : Int32)) + (1 : Int32)) &&& (16 : Int32)) (pt := 245) (q := 236) (by decide) (by decide) rfl rfl (fun (c107 : ((((p1 &&& (2147483647 : Int32)) % (63 : Int32)) + (1 : Int32)) &&& (16 : Int32)) = (0 : Int32)) => ?_) (fun (c107 : ¬ (((((p1 &&& (2147483647 : Int32)) % (63 : Int32)) + (1 : Int32)) &&& (16 : Int32)) = (0 : Int32))) => ?_)
          · refine own_iload X1460 hx (hb hby at_245) (q := 247) rfl rfl ?_
            refine own_bipush X1460 hx (v := (32 : Int32)) (hb hby at_247) (q := 249) rfl rfl ?_
            refine own_iand X1460 hx (hb hby at_249) (q := 250) rfl ?_
            refine own_if0P X1460 hx (hb hby at_250) (cd := .eq) (x := (((p1 &&& (2147483647 : Int32)) % (63 : Int32)) + (1 : Int32)) &&& (32 : Int32)) (pt := 262) (q := 253) (by decide) (by decide) rfl rfl (fun (c108 : ((((p1 &&& (2147483647 : Int32)) % (63 : Int32)) + (1 : Int32)) &&& (32 : Int32)) = (0 : Int32)) => ?_) (fun (c108 : ¬ (((((p1 &&& (2147483647 : Int32)) % (63 : Int32)) + (1 : Int32)) &&& (32 : Int32)) = (0 : Int32))) => ?_)
            · exact J2 _ _ _ _ _ _ _ _ _ _ _ X1460 e1461 A1465 A1466 A1467 A1464 Z1468 N1469 (by unfold own_S2; decide)
            · refine own_aload X1460 hx (hb hby at_253) (q := 255) rfl rfl rfl ?_
              refine own_iload X1460 hx (hb hby at_255) (q := 257) rfl rfl ?_
              refine own_iconst X1460 hx (v := (5 : Int32)) (hb hby at_257) (q := 258) rfl rfl ?_
              refine own_iastore X1460 hx hZ (i := 2) e1461 A1464 (by decide) (by decide) (Nat.le_of_ble_eq_true rfl) (hb hby at_258) (q := 259) rfl (fun T1470 h1473 X1471 e1472 W1474 A1475 => ?_)
              replace A1475 : own_A Z h1473 a686 .int [.int (1 : Int32), .int (3 : Int32), .int (5 : Int32), .int (0 : Int32), .int (0 : Int32), .int (0 : Int32)] := A1475
              have A1476 := A1465.other W1474 ne693
              have A1477 := A1466.other W1474 ne694
              have A1478 := A1467.other W1474 ne695
              have Z1479 : n0 ≤ h1473.size := W1474.size ▸ Z1468
              have N1480 := Fr.snoc X1471 N1469 Z696
              refine own_iinc (L' := #[.val (.int p1), .val (.long q2), .second, .val (.long q3), .second, .val (.long q4), .second, .val (.int (((p1 &&& (2147483647 : Int32)) % (63 : Int32)) + (1 : Int32))), .val (.ref a488), .val (.ref a546), .val (.ref a612), .val (.ref a686), .val (.int ((2 : Int32) + (1 : Int32))), .unset, .unset]) X1471 hx (v := (1 : Int32)) (hb hby at_259) (q := 262) rfl rfl rfl rfl ?_
              rw [show ((2 : Int32) + (1 : Int32) : Int32) = (3 : Int32) from by decide]
              exact J3 _ _ _ _ _ _ _ _ _ _ _ _ X1471 e1472 A1476 A1477 A1478 A1475 Z1479 N1480 (by unfold own_S3; decide)
          · refine own_aload X1460 hx (hb hby at_236) (q := 238) rfl rfl rfl ?_
            refine own_iload X1460 hx (hb hby at_238) (q := 240) rfl rfl ?_
            refine own_iconst X1460 hx (v := (4 : Int32)) (hb hby at_240) (q := 241) rfl rfl ?_
            refine own_iastore X1460 hx hZ (i := 2) e1461 A1464 (by decide) (by decide) (Nat.le_of_ble_eq_true rfl) (hb hby at_241) (q := 242) rfl (fun T1481 h1484 X1482 e1483 W1485 A1486 => ?_)
            replace A1486 : own_A Z h1484 a686 .int [.int (1 : Int32), .int (3 : Int32), .int (4 : Int32), .int (0 : Int32), .int (0 : Int32), .int (0 : Int32)] := A1486
            have A1487 := A1465.other W1485 ne693
            have A1488 := A1466.other W1485 ne694
            have A1489 := A1467.other W1485 ne695
            have Z1490 : n0 ≤ h1484.size := W1485.size ▸ Z1468
            have N1491 := Fr.snoc X1482 N1469 Z696
            refine own_iinc (L' := #[.val (.int p1), .val (.long q2), .second, .val (.long q3), .second, .val (.long q4), .second, .val (.int (((p1 &&& (2147483647 : Int32)) % (63 : Int32)) + (1 : Int32))), .val (.ref a488), .val (.ref a546), .val (.ref a612), .val (.ref a686), .val (.int ((2 : Int32) + (1 : Int32))), .unset, .unset]) X1482 hx (v := (1 : Int32)) (hb hby at_242) (q := 245) rfl rfl rfl rfl ?_
            rw [show ((2 : Int32) + (1 : Int32) : Int32) = (3 : Int32) from by decide]
            refine own_iload X1482 hx (hb hby at_245) (q := 247) rfl rfl ?_
            refine own_bipush X1482 hx (v := (32 : Int32)) (hb hby at_247) (q := 249) rfl rfl ?_
            refine own_iand X1482 hx (hb hby at_249) (q := 250) rfl ?_
            refine own_if0P X1482 hx (hb hby at_250) (cd := .eq) (x := (((p1 &&& (2147483647 : Int32)) % (63 : Int32)) + (1 : Int32)) &&& (32 : Int32)) (pt := 262) (q := 253) (by decide) (by decide) rfl rfl (fun (c109 : ((((p1 &&& (2147483647 : Int32)) % (63 : Int32)) + (1 : Int32)) &&& (32 : Int32)) = (0 : Int32)) => ?_) (fun (c109 : ¬ (((((p1 &&& (2147483647 : Int32)) % (63 : Int32)) + (1 : Int32)) &&& (32 : Int32)) = (0 : Int32))) => ?_)
            · exact J3 _ _ _ _ _ _ _ _ _ _ _ _ X1482 e1483 A1487 A1488 A1489 A1486 Z1490 N1491 (by unfold own_S3; decide)
            · refine own_aload X1482 hx (hb hby at_253) (q := 255) rfl rfl rfl ?_
              refine own_iload X1482 hx (hb hby at_255) (q := 257) rfl rfl ?_
              refine own_iconst X1482 hx (v := (5 : Int32)) (hb hby at_257) (q := 258) rfl rfl ?_
              refine own_iastore X1482 hx hZ (i := 3) e1483 A1486 (by decide) (by decide) (Nat.le_of_ble_eq_true rfl) (hb hby at_258) (q := 259) rfl (fun T1492 h1495 X1493 e1494 W1496 A1497 => ?_)
              replace A1497 : own_A Z h1495 a686 .int [.int (1 : Int32), .int (3 : Int32), .int (4 : Int32), .int (5 : Int32), .int (0 : Int32), .int (0 : Int32)] := A1497
              have A1498 := A1487.other W1496 ne693
              have A1499 := A1488.other W1496 ne694
              have A1500 := A1489.other W1496 ne695
              have Z1501 : n0 ≤ h1495.size := W1496.size ▸ Z1490
              have N1502 := Fr.snoc X1493 N1491 Z696
              refine own_iinc (L' := #[.val (.int p1), .val (.long q2), .second, .val (.long q3), .second, .val (.long q4), .second, .val (.int (((p1 &&& (2147483647 : Int32)) % (63 : Int32)) + (1 : Int32))), .val (.ref a488), .val (.ref a546), .val (.ref a612), .val (.ref a686), .val (.int ((3 : Int32) + (1 : Int32))), .unset, .unset]) X1493 hx (v := (1 : Int32)) (hb hby at_259) (q := 262) rfl rfl rfl rfl ?_
              rw [show ((3 : Int32) + (1 : Int32) : Int32) = (4 : Int32) from by decide]
              exact J4 _ _ _ _ _ _ _ _ _ _ _ _ _ X1493 e1494 A1498 A1499 A1500 A1497 Z1501 N1502 (by unfold own_S4; decide)
      · refine own_aload X1416 hx (hb hby at_202) (q := 204) rfl rfl rfl ?_
        refine own_iload X1416 hx (hb hby at_204) (q := 206) rfl rfl ?_
        refine own_iconst X1416 hx (v := (2 : Int32)) (hb hby at_206) (q := 207) rfl rfl ?_
        refine own_iastore X1416 hx hZ (i := 1) e1417 A1420 (by decide) (by decide) (Nat.le_of_ble_eq_true rfl) (hb hby at_207) (q := 208) rfl (fun T1503 h1506 X1504 e1505 W1507 A1508 => ?_)
        replace A1508 : own_A Z h1506 a686 .int [.int (1 : Int32), .int (2 : Int32), .int (0 : Int32), .int (0 : Int32), .int (0 : Int32), .int (0 : Int32)] := A1508
        have A1509 := A1421.other W1507 ne693
        have A1510 := A1422.other W1507 ne694
        have A1511 := A1423.other W1507 ne695
        have Z1512 : n0 ≤ h1506.size := W1507.size ▸ Z1424
        have N1513 := Fr.snoc X1504 N1425 Z696
        refine own_iinc (L' := #[.val (.int p1), .val (.long q2), .second, .val (.long q3), .second, .val (.long q4), .second, .val (.int (((p1 &&& (2147483647 : Int32)) % (63 : Int32)) + (1 : Int32))), .val (.ref a488), .val (.ref a546), .val (.ref a612), .val (.ref a686), .val (.int ((1 : Int32) + (1 : Int32))), .unset, .unset]) X1504 hx (v := (1 : Int32)) (hb hby at_208) (q := 211) rfl rfl rfl rfl ?_
        rw [show ((1 : Int32) + (1 : Int32) : Int32) = (2 : Int32) from by decide]
        refine own_iload X1504 hx (hb hby at_211) (q := 213) rfl rfl ?_
        refine own_bipush X1504 hx (v := (8 : Int32)) (hb hby at_213) (q := 215) rfl rfl ?_
        refine own_iand X1504 hx (hb hby at_215) (q := 216) rfl ?_
        refine own_if0P X1504 hx (hb hby at_216) (cd := .eq) (x := (((p1 &&& (2147483647 : Int32)) % (63 : Int32)) + (1 : Int32)) &&& (8 : Int32)) (pt := 228) (q := 219) (by decide) (by decide) rfl rfl (fun (c110 : ((((p1 &&& (2147483647 : Int32)) % (63 : Int32)) + (1 : Int32)) &&& (8 : Int32)) = (0 : Int32)) => ?_) (fun (c110 : ¬ (((((p1 &&& (2147483647 : Int32)) % (63 : Int32)) + (1 : Int32)) &&& (8 : Int32)) = (0 : Int32))) => ?_)
        · refine own_iload X1504 hx (hb hby at_228) (q := 230) rfl rfl ?_
          refine own_bipush X1504 hx (v := (16 : Int32)) (hb hby at_230) (q := 232) rfl rfl ?_
          refine own_iand X1504 hx (hb hby at_232) (q := 233) rfl ?_
          refine own_if0P X1504 hx (hb hby at_233) (cd := .eq) (x := (((p1 &&& (2147483647 : Int32)) % (63 : Int32)) + (1 : Int32)) &&& (16 : Int32)) (pt := 245) (q := 236) (by decide) (by decide) rfl rfl (fun (c111 : ((((p1 &&& (2147483647 : Int32)) % (63 : Int32)) + (1 : Int32)) &&& (16 : Int32)) = (0 : Int32)) => ?_) (fun (c111 : ¬ (((((p1 &&& (2147483647 : Int32)) % (63 : Int32)) + (1 : Int32)) &&& (16 : Int32)) = (0 : Int32))) => ?_)
          · refine own_iload X1504 hx (hb hby at_245) (q := 247) rfl rfl ?_
            refine own_bipush X1504 hx (v := (32 : Int32)) (hb hby at_247) (q := 249) rfl rfl ?_
            refine own_iand X1504 hx (hb hby at_249) (q := 250) rfl ?_
            refine own_if0P X1504 hx (hb hby at_250) (cd := .eq) (x := (((p1 &&& (2147483647 : Int32)) % (63 : Int32)) + (1 : Int32)) &&& (32 : Int32)) (pt := 262) (q := 253) (by decide) (by decide) rfl rfl (fun (c112 : ((((p1 &&& (2147483647 : Int32)) % (63 : Int32)) + (1 : Int32)) &&& (32 : Int32)) = (0 : Int32)) => ?_) (fun (c112 : ¬ (((((p1 &&& (2147483647 : Int32)) % (63 : Int32)) + (1 : Int32)) &&& (32 : Int32)) = (0 : Int32))) => ?_)
            · exact J2 _ _ _ _ _ _ _ _ _ _ _ X1504 e1505 A1509 A1510 A1511 A1508 Z1512 N1513 (by unfold own_S2; decide)
            · refine own_aload X1504 hx (hb hby at_253) (q := 255) rfl rfl rfl ?_
              refine own_iload X1504 hx (hb hby at_255) (q := 257) rfl rfl ?_
              refine own_iconst X1504 hx (v := (5 : Int32)) (hb hby at_257) (q := 258) rfl rfl ?_
              refine own_iastore X1504 hx hZ (i := 2) e1505 A1508 (by decide) (by decide) (Nat.le_of_ble_eq_true rfl) (hb hby at_258) (q := 259) rfl (fun T1514 h1517 X1515 e1516 W1518 A1519 => ?_)
              replace A1519 : own_A Z h1517 a686 .int [.int (1 : Int32), .int (2 : Int32), .int (5 : Int32), .int (0 : Int32), .int (0 : Int32), .int (0 : Int32)] := A1519
              have A1520 := A1509.other W1518 ne693
              have A1521 := A1510.other W1518 ne694
              have A1522 := A1511.other W1518 ne695
              have Z1523 : n0 ≤ h1517.size := W1518.size ▸ Z1512
              have N1524 := Fr.snoc X1515 N1513 Z696
              refine own_iinc (L' := #[.val (.int p1), .val (.long q2), .second, .val (.long q3), .second, .val (.long q4), .second, .val (.int (((p1 &&& (2147483647 : Int32)) % (63 : Int32)) + (1 : Int32))), .val (.ref a488), .val (.ref a546), .val (.ref a612), .val (.ref a686), .val (.int ((2 : Int32) + (1 : Int32))), .unset, .unset]) X1515 hx (v := (1 : Int32)) (hb hby at_259) (q := 262) rfl rfl rfl rfl ?_
              rw [show ((2 : Int32) + (1 : Int32) : Int32) = (3 : Int32) from by decide]
              exact J3 _ _ _ _ _ _ _ _ _ _ _ _ X1515 e1516 A1520 A1521 A1522 A1519 Z1523 N1524 (by unfold own_S3; decide)
          · refine own_aload X1504 hx (hb hby at_236) (q := 238) rfl rfl rfl ?_
            refine own_iload X1504 hx (hb hby at_238) (q := 240) rfl rfl ?_
            refine own_iconst X1504 hx (v := (4 : Int32)) (hb hby at_240) (q := 241) rfl rfl ?_
            refine own_iastore X1504 hx hZ (i := 2) e1505 A1508 (by decide) (by decide) (Nat.le_of_ble_eq_true rfl) (hb hby at_241) (q := 242) rfl (fun T1525 h1528 X1526 e1527 W1529 A1530 => ?_)
            replace A1530 : own_A Z h1528 a686 .int [.int (1 : Int32), .int (2 : Int32), .int (4 : Int32), .int (0 : Int32), .int (0 : Int32), .int (0 : Int32)] := A1530
            have A1531 := A1509.other W1529 ne693
            have A1532 := A1510.other W1529 ne694
            have A1533 := A1511.other W1529 ne695
            have Z1534 : n0 ≤ h1528.size := W1529.size ▸ Z1512
            have N1535 := Fr.snoc X1526 N1513 Z696
            refine own_iinc (L' := #[.val (.int p1), .val (.long q2), .second, .val (.long q3), .second, .val (.long q4), .second, .val (.int (((p1 &&& (2147483647 : Int32)) % (63 : Int32)) + (1 : Int32))), .val (.ref a488), .val (.ref a546), .val (.ref a612), .val (.ref a686), .val (.int ((2 : Int32) + (1 : Int32))), .unset, .unset]) X1526 hx (v := (1 : Int32)) (hb hby at_242) (q := 245) rfl rfl rfl rfl ?_
            rw [show ((2 : Int32) + (1 : Int32) : Int32) = (3 : Int32) from by decide]
            refine own_iload X1526 hx (hb hby at_245) (q := 247) rfl rfl ?_
            refine own_bipush X1526 hx (v := (32 : Int32)) (hb hby at_247) (q := 249) rfl rfl ?_
            refine own_iand X1526 hx (hb hby at_249) (q := 250) rfl ?_
            refine own_if0P X1526 hx (hb hby at_250) (cd := .eq) (x := (((p1 &&& (2147483647 : Int32)) % (63 : Int32)) + (1 : Int32)) &&& (32 : Int32)) (pt := 262) (q := 253) (by decide) (by decide) rfl rfl (fun (c113 : ((((p1 &&& (2147483647 : Int32)) % (63 : Int32)) + (1 : Int32)) &&& (32 : Int32)) = (0 : Int32)) => ?_) (fun (c113 : ¬ (((((p1 &&& (2147483647 : Int32)) % (63 : Int32)) + (1 : Int32)) &&& (32 : Int32)) = (0 : Int32))) => ?_)
            · exact J3 _ _ _ _ _ _ _ _ _ _ _ _ X1526 e1527 A1531 A1532 A1533 A1530 Z1534 N1535 (by unfold own_S3; decide)
            · refine own_aload X1526 hx (hb hby at_253) (q := 255) rfl rfl rfl ?_
              refine own_iload X1526 hx (hb hby at_255) (q := 257) rfl rfl ?_
              refine own_iconst X1526 hx (v := (5 : Int32)) (hb hby at_257) (q := 258) rfl rfl ?_
              refine own_iastore X1526 hx hZ (i := 3) e1527 A1530 (by decide) (by decide) (Nat.le_of_ble_eq_true rfl) (hb hby at_258) (q := 259) rfl (fun T1536 h1539 X1537 e1538 W1540 A1541 => ?_)
              replace A1541 : own_A Z h1539 a686 .int [.int (1 : Int32), .int (2 : Int32), .int (4 : Int32), .int (5 : Int32), .int (0 : Int32), .int (0 : Int32)] := A1541
              have A1542 := A1531.other W1540 ne693
              have A1543 := A1532.other W1540 ne694
              have A1544 := A1533.other W1540 ne695
              have Z1545 : n0 ≤ h1539.size := W1540.size ▸ Z1534
              have N1546 := Fr.snoc X1537 N1535 Z696
              refine own_iinc (L' := #[.val (.int p1), .val (.long q2), .second, .val (.long q3), .second, .val (.long q4), .second, .val (.int (((p1 &&& (2147483647 : Int32)) % (63 : Int32)) + (1 : Int32))), .val (.ref a488), .val (.ref a546), .val (.ref a612), .val (.ref a686), .val (.int ((3 : Int32) + (1 : Int32))), .unset, .unset]) X1537 hx (v := (1 : Int32)) (hb hby at_259) (q := 262) rfl rfl rfl rfl ?_
              rw [show ((3 : Int32) + (1 : Int32) : Int32) = (4 : Int32) from by decide]
              exact J4 _ _ _ _ _ _ _ _ _ _ _ _ _ X1537 e1538 A1542 A1543 A1544 A1541 Z1545 N1546 (by unfold own_S4; decide)
        · refine own_aload X1504 hx (hb hby at_219) (q := 221) rfl rfl rfl ?_
          refine own_iload X1504 hx (hb hby at_221) (q := 223) rfl rfl ?_
          refine own_iconst X1504 hx (v := (3 : Int32)) (hb hby at_223) (q := 224) rfl rfl ?_
          refine own_iastore X1504 hx hZ (i := 2) e1505 A1508 (by decide) (by decide) (Nat.le_of_ble_eq_true rfl) (hb hby at_224) (q := 225) rfl (fun T1547 h1550 X1548 e1549 W1551 A1552 => ?_)
          replace A1552 : own_A Z h1550 a686 .int [.int (1 : Int32), .int (2 : Int32), .int (3 : Int32), .int (0 : Int32), .int (0 : Int32), .int (0 : Int32)] := A1552
          have A1553 := A1509.other W1551 ne693
          have A1554 := A1510.other W1551 ne694
          have A1555 := A1511.other W1551 ne695
          have Z1556 : n0 ≤ h1550.size := W1551.size ▸ Z1512
          have N1557 := Fr.snoc X1548 N1513 Z696
          refine own_iinc (L' := #[.val (.int p1), .val (.long q2), .second, .val (.long q3), .second, .val (.long q4), .second, .val (.int (((p1 &&& (2147483647 : Int32)) % (63 : Int32)) + (1 : Int32))), .val (.ref a488), .val (.ref a546), .val (.ref a612), .val (.ref a686), .val (.int ((2 : Int32) + (1 : Int32))), .unset, .unset]) X1548 hx (v := (1 : Int32)) (hb hby at_225) (q := 228) rfl rfl rfl rfl ?_
          rw [show ((2 : Int32) + (1 : Int32) : Int32) = (3 : Int32) from by decide]
          refine own_iload X1548 hx (hb hby at_228) (q := 230) rfl rfl ?_
          refine own_bipush X1548 hx (v := (16 : Int32)) (hb hby at_230) (q := 232) rfl rfl ?_
          refine own_iand X1548 hx (hb hby at_232) (q := 233) rfl ?_
          refine own_if0P X1548 hx (hb hby at_233) (cd := .eq) (x := (((p1 &&& (2147483647 : Int32)) % (63 : Int32)) + (1 : Int32)) &&& (16 : Int32)) (pt := 245) (q := 236) (by decide) (by decide) rfl rfl (fun (c114 : ((((p1 &&& (2147483647 : Int32)) % (63 : Int32)) + (1 : Int32)) &&& (16 : Int32)) = (0 : Int32)) => ?_) (fun (c114 : ¬ (((((p1 &&& (2147483647 : Int32)) % (63 : Int32)) + (1 : Int32)) &&& (16 : Int32)) = (0 : Int32))) => ?_)
          · refine own_iload X1548 hx (hb hby at_245) (q := 247) rfl rfl ?_
            refine own_bipush X1548 hx (v := (32 : Int32)) (hb hby at_247) (q := 249) rfl rfl ?_
            refine own_iand X1548 hx (hb hby at_249) (q := 250) rfl ?_
            refine own_if0P X1548 hx (hb hby at_250) (cd := .eq) (x := (((p1 &&& (2147483647 : Int32)) % (63 : Int32)) + (1 : Int32)) &&& (32 : Int32)) (pt := 262) (q := 253) (by decide) (by decide) rfl rfl (fun (c115 : ((((p1 &&& (2147483647 : Int32)) % (63 : Int32)) + (1 : Int32)) &&& (32 : Int32)) = (0 : Int32)) => ?_) (fun (c115 : ¬ (((((p1 &&& (2147483647 : Int32)) % (63 : Int32)) + (1 : Int32)) &&& (32 : Int32)) = (0 : Int32))) => ?_)
            · exact J3 _ _ _ _ _ _ _ _ _ _ _ _ X1548 e1549 A1553 A1554 A1555 A1552 Z1556 N1557 (by unfold own_S3; decide)
            · refine own_aload X1548 hx (hb hby at_253) (q := 255) rfl rfl rfl ?_
              refine own_iload X1548 hx (hb hby at_255) (q := 257) rfl rfl ?_
              refine own_iconst X1548 hx (v := (5 : Int32)) (hb hby at_257) (q := 258) rfl rfl ?_
              refine own_iastore X1548 hx hZ (i := 3) e1549 A1552 (by decide) (by decide) (Nat.le_of_ble_eq_true rfl) (hb hby at_258) (q := 259) rfl (fun T1558 h1561 X1559 e1560 W1562 A1563 => ?_)
              replace A1563 : own_A Z h1561 a686 .int [.int (1 : Int32), .int (2 : Int32), .int (3 : Int32), .int (5 : Int32), .int (0 : Int32), .int (0 : Int32)] := A1563
              have A1564 := A1553.other W1562 ne693
              have A1565 := A1554.other W1562 ne694
              have A1566 := A1555.other W1562 ne695
              have Z1567 : n0 ≤ h1561.size := W1562.size ▸ Z1556
              have N1568 := Fr.snoc X1559 N1557 Z696
              refine own_iinc (L' := #[.val (.int p1), .val (.long q2), .second, .val (.long q3), .second, .val (.long q4), .second, .val (.int (((p1 &&& (2147483647 : Int32)) % (63 : Int32)) + (1 : Int32))), .val (.ref a488), .val (.ref a546), .val (.ref a612), .val (.ref a686), .val (.int ((3 : Int32) + (1 : Int32))), .unset, .unset]) X1559 hx (v := (1 : Int32)) (hb hby at_259) (q := 262) rfl rfl rfl rfl ?_
              rw [show ((3 : Int32) + (1 : Int32) : Int32) = (4 : Int32) from by decide]
              exact J4 _ _ _ _ _ _ _ _ _ _ _ _ _ X1559 e1560 A1564 A1565 A1566 A1563 Z1567 N1568 (by unfold own_S4; decide)
          · refine own_aload X1548 hx (hb hby at_236) (q := 238) rfl rfl rfl ?_
            refine own_iload X1548 hx (hb hby at_238) (q := 240) rfl rfl ?_
            refine own_iconst X1548 hx (v := (4 : Int32)) (hb hby at_240) (q := 241) rfl rfl ?_
            refine own_iastore X1548 hx hZ (i := 3) e1549 A1552 (by decide) (by decide) (Nat.le_of_ble_eq_true rfl) (hb hby at_241) (q := 242) rfl (fun T1569 h1572 X1570 e1571 W1573 A1574 => ?_)
            replace A1574 : own_A Z h1572 a686 .int [.int (1 : Int32), .int (2 : Int32), .int (3 : Int32), .int (4 : Int32), .int (0 : Int32), .int (0 : Int32)] := A1574
            have A1575 := A1553.other W1573 ne693
            have A1576 := A1554.other W1573 ne694
            have A1577 := A1555.other W1573 ne695
            have Z1578 : n0 ≤ h1572.size := W1573.size ▸ Z1556
            have N1579 := Fr.snoc X1570 N1557 Z696
            refine own_iinc (L' := #[.val (.int p1), .val (.long q2), .second, .val (.long q3), .second, .val (.long q4), .second, .val (.int (((p1 &&& (2147483647 : Int32)) % (63 : Int32)) + (1 : Int32))), .val (.ref a488), .val (.ref a546), .val (.ref a612), .val (.ref a686), .val (.int ((3 : Int32) + (1 : Int32))), .unset, .unset]) X1570 hx (v := (1 : Int32)) (hb hby at_242) (q := 245) rfl rfl rfl rfl ?_
            rw [show ((3 : Int32) + (1 : Int32) : Int32) = (4 : Int32) from by decide]
            refine own_iload X1570 hx (hb hby at_245) (q := 247) rfl rfl ?_
            refine own_bipush X1570 hx (v := (32 : Int32)) (hb hby at_247) (q := 249) rfl rfl ?_
            refine own_iand X1570 hx (hb hby at_249) (q := 250) rfl ?_
            refine own_if0P X1570 hx (hb hby at_250) (cd := .eq) (x := (((p1 &&& (2147483647 : Int32)) % (63 : Int32)) + (1 : Int32)) &&& (32 : Int32)) (pt := 262) (q := 253) (by decide) (by decide) rfl rfl (fun (c116 : ((((p1 &&& (2147483647 : Int32)) % (63 : Int32)) + (1 : Int32)) &&& (32 : Int32)) = (0 : Int32)) => ?_) (fun (c116 : ¬ (((((p1 &&& (2147483647 : Int32)) % (63 : Int32)) + (1 : Int32)) &&& (32 : Int32)) = (0 : Int32))) => ?_)
            · exact J4 _ _ _ _ _ _ _ _ _ _ _ _ _ X1570 e1571 A1575 A1576 A1577 A1574 Z1578 N1579 (by unfold own_S4; decide)
            · refine own_aload X1570 hx (hb hby at_253) (q := 255) rfl rfl rfl ?_
              refine own_iload X1570 hx (hb hby at_255) (q := 257) rfl rfl ?_
              refine own_iconst X1570 hx (v := (5 : Int32)) (hb hby at_257) (q := 258) rfl rfl ?_
              refine own_iastore X1570 hx hZ (i := 4) e1571 A1574 (by decide) (by decide) (Nat.le_of_ble_eq_true rfl) (hb hby at_258) (q := 259) rfl (fun T1580 h1583 X1581 e1582 W1584 A1585 => ?_)
              replace A1585 : own_A Z h1583 a686 .int [.int (1 : Int32), .int (2 : Int32), .int (3 : Int32), .int (4 : Int32), .int (5 : Int32), .int (0 : Int32)] := A1585
              have A1586 := A1575.other W1584 ne693
              have A1587 := A1576.other W1584 ne694
              have A1588 := A1577.other W1584 ne695
              have Z1589 : n0 ≤ h1583.size := W1584.size ▸ Z1578
              have N1590 := Fr.snoc X1581 N1579 Z696
              refine own_iinc (L' := #[.val (.int p1), .val (.long q2), .second, .val (.long q3), .second, .val (.long q4), .second, .val (.int (((p1 &&& (2147483647 : Int32)) % (63 : Int32)) + (1 : Int32))), .val (.ref a488), .val (.ref a546), .val (.ref a612), .val (.ref a686), .val (.int ((4 : Int32) + (1 : Int32))), .unset, .unset]) X1581 hx (v := (1 : Int32)) (hb hby at_259) (q := 262) rfl rfl rfl rfl ?_
              rw [show ((4 : Int32) + (1 : Int32) : Int32) = (5 : Int32) from by decide]
              exact J5 _ _ _ _ _ _ _ _ _ _ _ _ _ _ X1581 e1582 A1586 A1587 A1588 A1585 Z1589 N1590 (by unfold own_S5; decide)
  · refine own_aload X683 hx (hb hby at_170) (q := 172) rfl rfl rfl ?_
    refine own_iload X683 hx (hb hby at_172) (q := 174) rfl rfl ?_
    refine own_iconst X683 hx (v := (0 : Int32)) (hb hby at_174) (q := 175) rfl rfl ?_
    refine own_iastore X683 hx hZ (i := 0) e684 A689 (by decide) (by decide) (Nat.le_of_ble_eq_true rfl) (hb hby at_175) (q := 176) rfl (fun T1591 h1594 X1592 e1593 W1595 A1596 => ?_)
    replace A1596 : own_A Z h1594 a686 .int [.int (0 : Int32), .int (0 : Int32), .int (0 : Int32), .int (0 : Int32), .int (0 : Int32), .int (0 : Int32)] := A1596
    have A1597 := A690.other W1595 ne693
    have A1598 := A691.other W1595 ne694
    have A1599 := A692.other W1595 ne695
    have Z1600 : n0 ≤ h1594.size := W1595.size ▸ Z697
    have N1601 := Fr.snoc X1592 N681 Z696
    refine own_iinc (L' := #[.val (.int p1), .val (.long q2), .second, .val (.long q3), .second, .val (.long q4), .second, .val (.int (((p1 &&& (2147483647 : Int32)) % (63 : Int32)) + (1 : Int32))), .val (.ref a488), .val (.ref a546), .val (.ref a612), .val (.ref a686), .val (.int ((0 : Int32) + (1 : Int32))), .unset, .unset]) X1592 hx (v := (1 : Int32)) (hb hby at_176) (q := 179) rfl rfl rfl rfl ?_
    rw [show ((0 : Int32) + (1 : Int32) : Int32) = (1 : Int32) from by decide]
    refine own_iload X1592 hx (hb hby at_179) (q := 181) rfl rfl ?_
    refine own_iconst X1592 hx (v := (2 : Int32)) (hb hby at_181) (q := 182) rfl rfl ?_
    refine own_iand X1592 hx (hb hby at_182) (q := 183) rfl ?_
    refine own_if0P X1592 hx (hb hby at_183) (cd := .eq) (x := (((p1 &&& (2147483647 : Int32)) % (63 : Int32)) + (1 : Int32)) &&& (2 : Int32)) (pt := 195) (q := 186) (by decide) (by decide) rfl rfl (fun (c117 : ((((p1 &&& (2147483647 : Int32)) % (63 : Int32)) + (1 : Int32)) &&& (2 : Int32)) = (0 : Int32)) => ?_) (fun (c117 : ¬ (((((p1 &&& (2147483647 : Int32)) % (63 : Int32)) + (1 : Int32)) &&& (2 : Int32)) = (0 : Int32))) => ?_)
    · refine own_iload X1592 hx (hb hby at_195) (q := 197) rfl rfl ?_
      refine own_iconst X1592 hx (v := (4 : Int32)) (hb hby at_197) (q := 198) rfl rfl ?_
      refine own_iand X1592 hx (hb hby at_198) (q := 199) rfl ?_
      refine own_if0P X1592 hx (hb hby at_199) (cd := .eq) (x := (((p1 &&& (2147483647 : Int32)) % (63 : Int32)) + (1 : Int32)) &&& (4 : Int32)) (pt := 211) (q := 202) (by decide) (by decide) rfl rfl (fun (c118 : ((((p1 &&& (2147483647 : Int32)) % (63 : Int32)) + (1 : Int32)) &&& (4 : Int32)) = (0 : Int32)) => ?_) (fun (c118 : ¬ (((((p1 &&& (2147483647 : Int32)) % (63 : Int32)) + (1 : Int32)) &&& (4 : Int32)) = (0 : Int32))) => ?_)
      · refine own_iload X1592 hx (hb hby at_211) (q := 213) rfl rfl ?_
        refine own_bipush X1592 hx (v := (8 : Int32)) (hb hby at_213) (q := 215) rfl rfl ?_
        refine own_iand X1592 hx (hb hby at_215) (q := 216) rfl ?_
        refine own_if0P X1592 hx (hb hby at_216) (cd := .eq) (x := (((p1 &&& (2147483647 : Int32)) % (63 : Int32)) + (1 : Int32)) &&& (8 : Int32)) (pt := 228) (q := 219) (by decide) (by decide) rfl rfl (fun (c119 : ((((p1 &&& (2147483647 : Int32)) % (63 : Int32)) + (1 : Int32)) &&& (8 : Int32)) = (0 : Int32)) => ?_) (fun (c119 : ¬ (((((p1 &&& (2147483647 : Int32)) % (63 : Int32)) + (1 : Int32)) &&& (8 : Int32)) = (0 : Int32))) => ?_)
        · refine own_iload X1592 hx (hb hby at_228) (q := 230) rfl rfl ?_
          refine own_bipush X1592 hx (v := (16 : Int32)) (hb hby at_230) (q := 232) rfl rfl ?_
          refine own_iand X1592 hx (hb hby at_232) (q := 233) rfl ?_
          refine own_if0P X1592 hx (hb hby at_233) (cd := .eq) (x := (((p1 &&& (2147483647 : Int32)) % (63 : Int32)) + (1 : Int32)) &&& (16 : Int32)) (pt := 245) (q := 236) (by decide) (by decide) rfl rfl (fun (c120 : ((((p1 &&& (2147483647 : Int32)) % (63 : Int32)) + (1 : Int32)) &&& (16 : Int32)) = (0 : Int32)) => ?_) (fun (c120 : ¬ (((((p1 &&& (2147483647 : Int32)) % (63 : Int32)) + (1 : Int32)) &&& (16 : Int32)) = (0 : Int32))) => ?_)
          · refine own_iload X1592 hx (hb hby at_245) (q := 247) rfl rfl ?_
            refine own_bipush X1592 hx (v := (32 : Int32)) (hb hby at_247) (q := 249) rfl rfl ?_
            refine own_iand X1592 hx (hb hby at_249) (q := 250) rfl ?_
            refine own_if0P X1592 hx (hb hby at_250) (cd := .eq) (x := (((p1 &&& (2147483647 : Int32)) % (63 : Int32)) + (1 : Int32)) &&& (32 : Int32)) (pt := 262) (q := 253) (by decide) (by decide) rfl rfl (fun (c121 : ((((p1 &&& (2147483647 : Int32)) % (63 : Int32)) + (1 : Int32)) &&& (32 : Int32)) = (0 : Int32)) => ?_) (fun (c121 : ¬ (((((p1 &&& (2147483647 : Int32)) % (63 : Int32)) + (1 : Int32)) &&& (32 : Int32)) = (0 : Int32))) => ?_)
            · exact J1 _ _ _ _ _ _ _ _ _ _ X1592 e1593 A1597 A1598 A1599 A1596 Z1600 N1601 (by unfold own_S1; decide)
            · refine own_aload X1592 hx (hb hby at_253) (q := 255) rfl rfl rfl ?_
              refine own_iload X1592 hx (hb hby at_255) (q := 257) rfl rfl ?_
              refine own_iconst X1592 hx (v := (5 : Int32)) (hb hby at_257) (q := 258) rfl rfl ?_
              refine own_iastore X1592 hx hZ (i := 1) e1593 A1596 (by decide) (by decide) (Nat.le_of_ble_eq_true rfl) (hb hby at_258) (q := 259) rfl (fun T1602 h1605 X1603 e1604 W1606 A1607 => ?_)
              replace A1607 : own_A Z h1605 a686 .int [.int (0 : Int32), .int (5 : Int32), .int (0 : Int32), .int (0 : Int32), .int (0 : Int32), .int (0 : Int32)] := A1607
              have A1608 := A1597.other W1606 ne693
              have A1609 := A1598.other W1606 ne694
              have A1610 := A1599.other W1606 ne695
              have Z1611 : n0 ≤ h1605.size := W1606.size ▸ Z1600
              have N1612 := Fr.snoc X1603 N1601 Z696
              refine own_iinc (L' := #[.val (.int p1), .val (.long q2), .second, .val (.long q3), .second, .val (.long q4), .second, .val (.int (((p1 &&& (2147483647 : Int32)) % (63 : Int32)) + (1 : Int32))), .val (.ref a488), .val (.ref a546), .val (.ref a612), .val (.ref a686), .val (.int ((1 : Int32) + (1 : Int32))), .unset, .unset]) X1603 hx (v := (1 : Int32)) (hb hby at_259) (q := 262) rfl rfl rfl rfl ?_
              rw [show ((1 : Int32) + (1 : Int32) : Int32) = (2 : Int32) from by decide]
              exact J2 _ _ _ _ _ _ _ _ _ _ _ X1603 e1604 A1608 A1609 A1610 A1607 Z1611 N1612 (by unfold own_S2; decide)
          · refine own_aload X1592 hx (hb hby at_236) (q := 238) rfl rfl rfl ?_
            refine own_iload X1592 hx (hb hby at_238) (q := 240) rfl rfl ?_
            refine own_iconst X1592 hx (v := (4 : Int32)) (hb hby at_240) (q := 241) rfl rfl ?_
            refine own_iastore X1592 hx hZ (i := 1) e1593 A1596 (by decide) (by decide) (Nat.le_of_ble_eq_true rfl) (hb hby at_241) (q := 242) rfl (fun T1613 h1616 X1614 e1615 W1617 A1618 => ?_)
            replace A1618 : own_A Z h1616 a686 .int [.int (0 : Int32), .int (4 : Int32), .int (0 : Int32), .int (0 : Int32), .int (0 : Int32), .int (0 : Int32)] := A1618
            have A1619 := A1597.other W1617 ne693
            have A1620 := A1598.other W1617 ne694
            have A1621 := A1599.other W1617 ne695
            have Z1622 : n0 ≤ h1616.size := W1617.size ▸ Z1600
            have N1623 := Fr.snoc X1614 N1601 Z696
            refine own_iinc (L' := #[.val (.int p1), .val (.long q2), .second, .val (.long q3), .second, .val (.long q4), .second, .val (.int (((p1 &&& (2147483647 : Int32)) % (63 : Int32)) + (1 : Int32))), .val (.ref a488), .val (.ref a546), .val (.ref a612), .val (.ref a686), .val (.int ((1 : Int32) + (1 : Int32))), .unset, .unset]) X1614 hx (v := (1 : Int32)) (hb hby at_242) (q := 245) rfl rfl rfl rfl ?_
            rw [show ((1 : Int32) + (1 : Int32) : Int32) = (2 : Int32) from by decide]
            refine own_iload X1614 hx (hb hby at_245) (q := 247) rfl rfl ?_
            refine own_bipush X1614 hx (v := (32 : Int32)) (hb hby at_247) (q := 249) rfl rfl ?_
            refine own_iand X1614 hx (hb hby at_249) (q := 250) rfl ?_
            refine own_if0P X1614 hx (hb hby at_250) (cd := .eq) (x := (((p1 &&& (2147483647 : Int32)) % (63 : Int32)) + (1 : Int32)) &&& (32 : Int32)) (pt := 262) (q := 253) (by decide) (by decide) rfl rfl (fun (c122 : ((((p1 &&& (2147483647 : Int32)) % (63 : Int32)) + (1 : Int32)) &&& (32 : Int32)) = (0 : Int32)) => ?_) (fun (c122 : ¬ (((((p1 &&& (2147483647 : Int32)) % (63 : Int32)) + (1 : Int32)) &&& (32 : Int32)) = (0 : Int32))) => ?_)
            · exact J2 _ _ _ _ _ _ _ _ _ _ _ X1614 e1615 A1619 A1620 A1621 A1618 Z1622 N1623 (by unfold own_S2; decide)
            · refine own_aload X1614 hx (hb hby at_253) (q := 255) rfl rfl rfl ?_
              refine own_iload X1614 hx (hb hby at_255) (q := 257) rfl rfl ?_
              refine own_iconst X1614 hx (v := (5 : Int32)) (hb hby at_257) (q := 258) rfl rfl ?_
              refine own_iastore X1614 hx hZ (i := 2) e1615 A1618 (by decide) (by decide) (Nat.le_of_ble_eq_true rfl) (hb hby at_258) (q := 259) rfl (fun T1624 h1627 X1625 e1626 W1628 A1629 => ?_)
              replace A1629 : own_A Z h1627 a686 .int [.int (0 : Int32), .int (4 : Int32), .int (5 : Int32), .int (0 : Int32), .int (0 : Int32), .int (0 : Int32)] := A1629
              have A1630 := A1619.other W1628 ne693
              have A1631 := A1620.other W1628 ne694
              have A1632 := A1621.other W1628 ne695
              have Z1633 : n0 ≤ h1627.size := W1628.size ▸ Z1622
              have N1634 := Fr.snoc X1625 N1623 Z696
              refine own_iinc (L' := #[.val (.int p1), .val (.long q2), .second, .val (.long q3), .second, .val (.long q4), .second, .val (.int (((p1 &&& (2147483647 : Int32)) % (63 : Int32)) + (1 : Int32))), .val (.ref a488), .val (.ref a546), .val (.ref a612), .val (.ref a686), .val (.int ((2 : Int32) + (1 : Int32))), .unset, .unset]) X1625 hx (v := (1 : Int32)) (hb hby at_259) (q := 262) rfl rfl rfl rfl ?_
              rw [show ((2 : Int32) + (1 : Int32) : Int32) = (3 : Int32) from by decide]
              exact J3 _ _ _ _ _ _ _ _ _ _ _ _ X1625 e1626 A1630 A1631 A1632 A1629 Z1633 N1634 (by unfold own_S3; decide)
        · refine own_aload X1592 hx (hb hby at_219) (q := 221) rfl rfl rfl ?_
          refine own_iload X1592 hx (hb hby at_221) (q := 223) rfl rfl ?_
          refine own_iconst X1592 hx (v := (3 : Int32)) (hb hby at_223) (q := 224) rfl rfl ?_
          refine own_iastore X1592 hx hZ (i := 1) e1593 A1596 (by decide) (by decide) (Nat.le_of_ble_eq_true rfl) (hb hby at_224) (q := 225) rfl (fun T1635 h1638 X1636 e1637 W1639 A1640 => ?_)
          replace A1640 : own_A Z h1638 a686 .int [.int (0 : Int32), .int (3 : Int32), .int (0 : Int32), .int (0 : Int32), .int (0 : Int32), .int (0 : Int32)] := A1640
          have A1641 := A1597.other W1639 ne693
          have A1642 := A1598.other W1639 ne694
          have A1643 := A1599.other W1639 ne695
          have Z1644 : n0 ≤ h1638.size := W1639.size ▸ Z1600
          have N1645 := Fr.snoc X1636 N1601 Z696
          refine own_iinc (L' := #[.val (.int p1), .val (.long q2), .second, .val (.long q3), .second, .val (.long q4), .second, .val (.int (((p1 &&& (2147483647 : Int32)) % (63 : Int32)) + (1 : Int32))), .val (.ref a488), .val (.ref a546), .val (.ref a612), .val (.ref a686), .val (.int ((1 : Int32) + (1 : Int32))), .unset, .unset]) X1636 hx (v := (1 : Int32)) (hb hby at_225) (q := 228) rfl rfl rfl rfl ?_
          rw [show ((1 : Int32) + (1 : Int32) : Int32) = (2 : Int32) from by decide]
          refine own_iload X1636 hx (hb hby at_228) (q := 230) rfl rfl ?_
          refine own_bipush X1636 hx (v := (16 : Int32)) (hb hby at_230) (q := 232) rfl rfl ?_
          refine own_iand X1636 hx (hb hby at_232) (q := 233) rfl ?_
          refine own_if0P X1636 hx (hb hby at_233) (cd := .eq) (x := (((p1 &&& (2147483647 : Int32)) % (63 : Int32)) + (1 : Int32)) &&& (16 : Int32)) (pt := 245) (q := 236) (by decide) (by decide) rfl rfl (fun (c123 : ((((p1 &&& (2147483647 : Int32)) % (63 : Int32)) + (1 : Int32)) &&& (16 : Int32)) = (0 : Int32)) => ?_) (fun (c123 : ¬ (((((p1 &&& (2147483647 : Int32)) % (63 : Int32)) + (1 : Int32)) &&& (16 : Int32)) = (0 : Int32))) => ?_)
          · refine own_iload X1636 hx (hb hby at_245) (q := 247) rfl rfl ?_
            refine own_bipush X1636 hx (v := (32 : Int32)) (hb hby at_247) (q := 249) rfl rfl ?_
            refine own_iand X1636 hx (hb hby at_249) (q := 250) rfl ?_
            refine own_if0P X1636 hx (hb hby at_250) (cd := .eq) (x := (((p1 &&& (2147483647 : Int32)) % (63 : Int32)) + (1 : Int32)) &&& (32 : Int32)) (pt := 262) (q := 253) (by decide) (by decide) rfl rfl (fun (c124 : ((((p1 &&& (2147483647 : Int32)) % (63 : Int32)) + (1 : Int32)) &&& (32 : Int32)) = (0 : Int32)) => ?_) (fun (c124 : ¬ (((((p1 &&& (2147483647 : Int32)) % (63 : Int32)) + (1 : Int32)) &&& (32 : Int32)) = (0 : Int32))) => ?_)
            · exact J2 _ _ _ _ _ _ _ _ _ _ _ X1636 e1637 A1641 A1642 A1643 A1640 Z1644 N1645 (by unfold own_S2; decide)
            · refine own_aload X1636 hx (hb hby at_253) (q := 255) rfl rfl rfl ?_
              refine own_iload X1636 hx (hb hby at_255) (q := 257) rfl rfl ?_
              refine own_iconst X1636 hx (v := (5 : Int32)) (hb hby at_257) (q := 258) rfl rfl ?_
              refine own_iastore X1636 hx hZ (i := 2) e1637 A1640 (by decide) (by decide) (Nat.le_of_ble_eq_true rfl) (hb hby at_258) (q := 259) rfl (fun T1646 h1649 X1647 e1648 W1650 A1651 => ?_)
              replace A1651 : own_A Z h1649 a686 .int [.int (0 : Int32), .int (3 : Int32), .int (5 : Int32), .int (0 : Int32), .int (0 : Int32), .int (0 : Int32)] := A1651
              have A1652 := A1641.other W1650 ne693
              have A1653 := A1642.other W1650 ne694
              have A1654 := A1643.other W1650 ne695
              have Z1655 : n0 ≤ h1649.size := W1650.size ▸ Z1644
              have N1656 := Fr.snoc X1647 N1645 Z696
              refine own_iinc (L' := #[.val (.int p1), .val (.long q2), .second, .val (.long q3), .second, .val (.long q4), .second, .val (.int (((p1 &&& (2147483647 : Int32)) % (63 : Int32)) + (1 : Int32))), .val (.ref a488), .val (.ref a546), .val (.ref a612), .val (.ref a686), .val (.int ((2 : Int32) + (1 : Int32))), .unset, .unset]) X1647 hx (v := (1 : Int32)) (hb hby at_259) (q := 262) rfl rfl rfl rfl ?_
              rw [show ((2 : Int32) + (1 : Int32) : Int32) = (3 : Int32) from by decide]
              exact J3 _ _ _ _ _ _ _ _ _ _ _ _ X1647 e1648 A1652 A1653 A1654 A1651 Z1655 N1656 (by unfold own_S3; decide)
          · refine own_aload X1636 hx (hb hby at_236) (q := 238) rfl rfl rfl ?_
            refine own_iload X1636 hx (hb hby at_238) (q := 240) rfl rfl ?_
            refine own_iconst X1636 hx (v := (4 : Int32)) (hb hby at_240) (q := 241) rfl rfl ?_
            refine own_iastore X1636 hx hZ (i := 2) e1637 A1640 (by decide) (by decide) (Nat.le_of_ble_eq_true rfl) (hb hby at_241) (q := 242) rfl (fun T1657 h1660 X1658 e1659 W1661 A1662 => ?_)
            replace A1662 : own_A Z h1660 a686 .int [.int (0 : Int32), .int (3 : Int32), .int (4 : Int32), .int (0 : Int32), .int (0 : Int32), .int (0 : Int32)] := A1662
            have A1663 := A1641.other W1661 ne693
            have A1664 := A1642.other W1661 ne694
            have A1665 := A1643.other W1661 ne695
            have Z1666 : n0 ≤ h1660.size := W1661.size ▸ Z1644
            have N1667 := Fr.snoc X1658 N1645 Z696
            refine own_iinc (L' := #[.val (.int p1), .val (.long q2), .second, .val (.long q3), .second, .val (.long q4), .second, .val (.int (((p1 &&& (2147483647 : Int32)) % (63 : Int32)) + (1 : Int32))), .val (.ref a488), .val (.ref a546), .val (.ref a612), .val (.ref a686), .val (.int ((2 : Int32) + (1 : Int32))), .unset, .unset]) X1658 hx (v := (1 : Int32)) (hb hby at_242) (q := 245) rfl rfl rfl rfl ?_
            rw [show ((2 : Int32) + (1 : Int32) : Int32) = (3 : Int32) from by decide]
            refine own_iload X1658 hx (hb hby at_245) (q := 247) rfl rfl ?_
            refine own_bipush X1658 hx (v := (32 : Int32)) (hb hby at_247) (q := 249) rfl rfl ?_
            refine own_iand X1658 hx (hb hby at_249) (q := 250) rfl ?_
            refine own_if0P X1658 hx (hb hby at_250) (cd := .eq) (x := (((p1 &&& (2147483647 : Int32)) % (63 : Int32)) + (1 : Int32)) &&& (32 : Int32)) (pt := 262) (q := 253) (by decide) (by decide) rfl rfl (fun (c125 : ((((p1 &&& (2147483647 : Int32)) % (63 : Int32)) + (1 : Int32)) &&& (32 : Int32)) = (0 : Int32)) => ?_) (fun (c125 : ¬ (((((p1 &&& (2147483647 : Int32)) % (63 : Int32)) + (1 : Int32)) &&& (32 : Int32)) = (0 : Int32))) => ?_)
            · exact J3 _ _ _ _ _ _ _ _ _ _ _ _ X1658 e1659 A1663 A1664 A1665 A1662 Z1666 N1667 (by unfold own_S3; decide)
            · refine own_aload X1658 hx (hb hby at_253) (q := 255) rfl rfl rfl ?_
              refine own_iload X1658 hx (hb hby at_255) (q := 257) rfl rfl ?_
              refine own_iconst X1658 hx (v := (5 : Int32)) (hb hby at_257) (q := 258) rfl rfl ?_
              refine own_iastore X1658 hx hZ (i := 3) e1659 A1662 (by decide) (by decide) (Nat.le_of_ble_eq_true rfl) (hb hby at_258) (q := 259) rfl (fun T1668 h1671 X1669 e1670 W1672 A1673 => ?_)
              replace A1673 : own_A Z h1671 a686 .int [.int (0 : Int32), .int (3 : Int32), .int (4 : Int32), .int (5 : Int32), .int (0 : Int32), .int (0 : Int32)] := A1673
              have A1674 := A1663.other W1672 ne693
              have A1675 := A1664.other W1672 ne694
              have A1676 := A1665.other W1672 ne695
              have Z1677 : n0 ≤ h1671.size := W1672.size ▸ Z1666
              have N1678 := Fr.snoc X1669 N1667 Z696
              refine own_iinc (L' := #[.val (.int p1), .val (.long q2), .second, .val (.long q3), .second, .val (.long q4), .second, .val (.int (((p1 &&& (2147483647 : Int32)) % (63 : Int32)) + (1 : Int32))), .val (.ref a488), .val (.ref a546), .val (.ref a612), .val (.ref a686), .val (.int ((3 : Int32) + (1 : Int32))), .unset, .unset]) X1669 hx (v := (1 : Int32)) (hb hby at_259) (q := 262) rfl rfl rfl rfl ?_
              rw [show ((3 : Int32) + (1 : Int32) : Int32) = (4 : Int32) from by decide]
              exact J4 _ _ _ _ _ _ _ _ _ _ _ _ _ X1669 e1670 A1674 A1675 A1676 A1673 Z1677 N1678 (by unfold own_S4; decide)
      · refine own_aload X1592 hx (hb hby at_202) (q := 204) rfl rfl rfl ?_
        refine own_iload X1592 hx (hb hby at_204) (q := 206) rfl rfl ?_
        refine own_iconst X1592 hx (v := (2 : Int32)) (hb hby at_206) (q := 207) rfl rfl ?_
        refine own_iastore X1592 hx hZ (i := 1) e1593 A1596 (by decide) (by decide) (Nat.le_of_ble_eq_true rfl) (hb hby at_207) (q := 208) rfl (fun T1679 h1682 X1680 e1681 W1683 A1684 => ?_)
        replace A1684 : own_A Z h1682 a686 .int [.int (0 : Int32), .int (2 : Int32), .int (0 : Int32), .int (0 : Int32), .int (0 : Int32), .int (0 : Int32)] := A1684
        have A1685 := A1597.other W1683 ne693
        have A1686 := A1598.other W1683 ne694
        have A1687 := A1599.other W1683 ne695
        have Z1688 : n0 ≤ h1682.size := W1683.size ▸ Z1600
        have N1689 := Fr.snoc X1680 N1601 Z696
        refine own_iinc (L' := #[.val (.int p1), .val (.long q2), .second, .val (.long q3), .second, .val (.long q4), .second, .val (.int (((p1 &&& (2147483647 : Int32)) % (63 : Int32)) + (1 : Int32))), .val (.ref a488), .val (.ref a546), .val (.ref a612), .val (.ref a686), .val (.int ((1 : Int32) + (1 : Int32))), .unset, .unset]) X1680 hx (v := (1 : Int32)) (hb hby at_208) (q := 211) rfl rfl rfl rfl ?_
        rw [show ((1 : Int32) + (1 : Int32) : Int32) = (2 : Int32) from by decide]
        refine own_iload X1680 hx (hb hby at_211) (q := 213) rfl rfl ?_
        refine own_bipush X1680 hx (v := (8 : Int32)) (hb hby at_213) (q := 215) rfl rfl ?_
        refine own_iand X1680 hx (hb hby at_215) (q := 216) rfl ?_
        refine own_if0P X1680 hx (hb hby at_216) (cd := .eq) (x := (((p1 &&& (2147483647 : Int32)) % (63 : Int32)) + (1 : Int32)) &&& (8 : Int32)) (pt := 228) (q := 219) (by decide) (by decide) rfl rfl (fun (c126 : ((((p1 &&& (2147483647 : Int32)) % (63 : Int32)) + (1 : Int32)) &&& (8 : Int32)) = (0 : Int32)) => ?_) (fun (c126 : ¬ (((((p1 &&& (2147483647 : Int32)) % (63 : Int32)) + (1 : Int32)) &&& (8 : Int32)) = (0 : Int32))) => ?_)
        · refine own_iload X1680 hx (hb hby at_228) (q := 230) rfl rfl ?_
          refine own_bipush X1680 hx (v := (16 : Int32)) (hb hby at_230) (q := 232) rfl rfl ?_
          refine own_iand X1680 hx (hb hby at_232) (q := 233) rfl ?_
          refine own_if0P X1680 hx (hb hby at_233) (cd := .eq) (x := (((p1 &&& (2147483647 : Int32)) % (63 : Int32)) + (1 : Int32)) &&& (16 : Int32)) (pt := 245) (q := 236) (by decide) (by decide) rfl rfl (fun (c127 : ((((p1 &&& (2147483647 : Int32)) % (63 : Int32)) + (1 : Int32)) &&& (16 : Int32)) = (0 : Int32)) => ?_) (fun (c127 : ¬ (((((p1 &&& (2147483647 : Int32)) % (63 : Int32)) + (1 : Int32)) &&& (16 : Int32)) = (0 : Int32))) => ?_)
          · refine own_iload X1680 hx (hb hby at_245) (q := 247) rfl rfl ?_
            refine own_bipush X1680 hx (v := (32 : Int32)) (hb hby at_247) (q := 249) rfl rfl ?_
            refine own_iand X1680 hx (hb hby at_249) (q := 250) rfl ?_
            refine own_if0P X1680 hx (hb hby at_250) (cd := .eq) (x := (((p1 &&& (2147483647 : Int32)) % (63 : Int32)) + (1 : Int32)) &&& (32 : Int32)) (pt := 262) (q := 253) (by decide) (by decide) rfl rfl (fun (c128 : ((((p1 &&& (2147483647 : Int32)) % (63 : Int32)) + (1 : Int32)) &&& (32 : Int32)) = (0 : Int32)) => ?_) (fun (c128 : ¬ (((((p1 &&& (2147483647 : Int32)) % (63 : Int32)) + (1 : Int32)) &&& (32 : Int32)) = (0 : Int32))) => ?_)
            · exact J2 _ _ _ _ _ _ _ _ _ _ _ X1680 e1681 A1685 A1686 A1687 A1684 Z1688 N1689 (by unfold own_S2; decide)
            · refine own_aload X1680 hx (hb hby at_253) (q := 255) rfl rfl rfl ?_
              refine own_iload X1680 hx (hb hby at_255) (q := 257) rfl rfl ?_
              refine own_iconst X1680 hx (v := (5 : Int32)) (hb hby at_257) (q := 258) rfl rfl ?_
              refine own_iastore X1680 hx hZ (i := 2) e1681 A1684 (by decide) (by decide) (Nat.le_of_ble_eq_true rfl) (hb hby at_258) (q := 259) rfl (fun T1690 h1693 X1691 e1692 W1694 A1695 => ?_)
              replace A1695 : own_A Z h1693 a686 .int [.int (0 : Int32), .int (2 : Int32), .int (5 : Int32), .int (0 : Int32), .int (0 : Int32), .int (0 : Int32)] := A1695
              have A1696 := A1685.other W1694 ne693
              have A1697 := A1686.other W1694 ne694
              have A1698 := A1687.other W1694 ne695
              have Z1699 : n0 ≤ h1693.size := W1694.size ▸ Z1688
              have N1700 := Fr.snoc X1691 N1689 Z696
              refine own_iinc (L' := #[.val (.int p1), .val (.long q2), .second, .val (.long q3), .second, .val (.long q4), .second, .val (.int (((p1 &&& (2147483647 : Int32)) % (63 : Int32)) + (1 : Int32))), .val (.ref a488), .val (.ref a546), .val (.ref a612), .val (.ref a686), .val (.int ((2 : Int32) + (1 : Int32))), .unset, .unset]) X1691 hx (v := (1 : Int32)) (hb hby at_259) (q := 262) rfl rfl rfl rfl ?_
              rw [show ((2 : Int32) + (1 : Int32) : Int32) = (3 : Int32) from by decide]
              exact J3 _ _ _ _ _ _ _ _ _ _ _ _ X1691 e1692 A1696 A1697 A1698 A1695 Z1699 N1700 (by unfold own_S3; decide)
          · refine own_aload X1680 hx (hb hby at_236) (q := 238) rfl rfl rfl ?_
            refine own_iload X1680 hx (hb hby at_238) (q := 240) rfl rfl ?_
            refine own_iconst X1680 hx (v := (4 : Int32)) (hb hby at_240) (q := 241) rfl rfl ?_
            refine own_iastore X1680 hx hZ (i := 2) e1681 A1684 (by decide) (by decide) (Nat.le_of_ble_eq_true rfl) (hb hby at_241) (q := 242) rfl (fun T1701 h1704 X1702 e1703 W1705 A1706 => ?_)
            replace A1706 : own_A Z h1704 a686 .int [.int (0 : Int32), .int (2 : Int32), .int (4 : Int32), .int (0 : Int32), .int (0 : Int32), .int (0 : Int32)] := A1706
            have A1707 := A1685.other W1705 ne693
            have A1708 := A1686.other W1705 ne694
            have A1709 := A1687.other W1705 ne695
            have Z1710 : n0 ≤ h1704.size := W1705.size ▸ Z1688
            have N1711 := Fr.snoc X1702 N1689 Z696
            refine own_iinc (L' := #[.val (.int p1), .val (.long q2), .second, .val (.long q3), .second, .val (.long q4), .second, .val (.int (((p1 &&& (2147483647 : Int32)) % (63 : Int32)) + (1 : Int32))), .val (.ref a488), .val (.ref a546), .val (.ref a612), .val (.ref a686), .val (.int ((2 : Int32) + (1 : Int32))), .unset, .unset]) X1702 hx (v := (1 : Int32)) (hb hby at_242) (q := 245) rfl rfl rfl rfl ?_
            rw [show ((2 : Int32) + (1 : Int32) : Int32) = (3 : Int32) from by decide]
            refine own_iload X1702 hx (hb hby at_245) (q := 247) rfl rfl ?_
            refine own_bipush X1702 hx (v := (32 : Int32)) (hb hby at_247) (q := 249) rfl rfl ?_
            refine own_iand X1702 hx (hb hby at_249) (q := 250) rfl ?_
            refine own_if0P X1702 hx (hb hby at_250) (cd := .eq) (x := (((p1 &&& (2147483647 : Int32)) % (63 : Int32)) + (1 : Int32)) &&& (32 : Int32)) (pt := 262) (q := 253) (by decide) (by decide) rfl rfl (fun (c129 : ((((p1 &&& (2147483647 : Int32)) % (63 : Int32)) + (1 : Int32)) &&& (32 : Int32)) = (0 : Int32)) => ?_) (fun (c129 : ¬ (((((p1 &&& (2147483647 : Int32)) % (63 : Int32)) + (1 : Int32)) &&& (32 : Int32)) = (0 : Int32))) => ?_)
            · exact J3 _ _ _ _ _ _ _ _ _ _ _ _ X1702 e1703 A1707 A1708 A1709 A1706 Z1710 N1711 (by unfold own_S3; decide)
            · refine own_aload X1702 hx (hb hby at_253) (q := 255) rfl rfl rfl ?_
              refine own_iload X1702 hx (hb hby at_255) (q := 257) rfl rfl ?_
              refine own_iconst X1702 hx (v := (5 : Int32)) (hb hby at_257) (q := 258) rfl rfl ?_
              refine own_iastore X1702 hx hZ (i := 3) e1703 A1706 (by decide) (by decide) (Nat.le_of_ble_eq_true rfl) (hb hby at_258) (q := 259) rfl (fun T1712 h1715 X1713 e1714 W1716 A1717 => ?_)
              replace A1717 : own_A Z h1715 a686 .int [.int (0 : Int32), .int (2 : Int32), .int (4 : Int32), .int (5 : Int32), .int (0 : Int32), .int (0 : Int32)] := A1717
              have A1718 := A1707.other W1716 ne693
              have A1719 := A1708.other W1716 ne694
              have A1720 := A1709.other W1716 ne695
              have Z1721 : n0 ≤ h1715.size := W1716.size ▸ Z1710
              have N1722 := Fr.snoc X1713 N1711 Z696
              refine own_iinc (L' := #[.val (.int p1), .val (.long q2), .second, .val (.long q3), .second, .val (.long q4), .second, .val (.int (((p1 &&& (2147483647 : Int32)) % (63 : Int32)) + (1 : Int32))), .val (.ref a488), .val (.ref a546), .val (.ref a612), .val (.ref a686), .val (.int ((3 : Int32) + (1 : Int32))), .unset, .unset]) X1713 hx (v := (1 : Int32)) (hb hby at_259) (q := 262) rfl rfl rfl rfl ?_
              rw [show ((3 : Int32) + (1 : Int32) : Int32) = (4 : Int32) from by decide]
              exact J4 _ _ _ _ _ _ _ _ _ _ _ _ _ X1713 e1714 A1718 A1719 A1720 A1717 Z1721 N1722 (by unfold own_S4; decide)
        · refine own_aload X1680 hx (hb hby at_219) (q := 221) rfl rfl rfl ?_
          refine own_iload X1680 hx (hb hby at_221) (q := 223) rfl rfl ?_
          refine own_iconst X1680 hx (v := (3 : Int32)) (hb hby at_223) (q := 224) rfl rfl ?_
          refine own_iastore X1680 hx hZ (i := 2) e1681 A1684 (by decide) (by decide) (Nat.le_of_ble_eq_true rfl) (hb hby at_224) (q := 225) rfl (fun T1723 h1726 X1724 e1725 W1727 A1728 => ?_)
          replace A1728 : own_A Z h1726 a686 .int [.int (0 : Int32), .int (2 : Int32), .int (3 : Int32), .int (0 : Int32), .int (0 : Int32), .int (0 : Int32)] := A1728
          have A1729 := A1685.other W1727 ne693
          have A1730 := A1686.other W1727 ne694
          have A1731 := A1687.other W1727 ne695
          have Z1732 : n0 ≤ h1726.size := W1727.size ▸ Z1688
          have N1733 := Fr.snoc X1724 N1689 Z696
          refine own_iinc (L' := #[.val (.int p1), .val (.long q2), .second, .val (.long q3), .second, .val (.long q4), .second, .val (.int (((p1 &&& (2147483647 : Int32)) % (63 : Int32)) + (1 : Int32))), .val (.ref a488), .val (.ref a546), .val (.ref a612), .val (.ref a686), .val (.int ((2 : Int32) + (1 : Int32))), .unset, .unset]) X1724 hx (v := (1 : Int32)) (hb hby at_225) (q := 228) rfl rfl rfl rfl ?_
          rw [show ((2 : Int32) + (1 : Int32) : Int32) = (3 : Int32) from by decide]
          refine own_iload X1724 hx (hb hby at_228) (q := 230) rfl rfl ?_
          refine own_bipush X1724 hx (v := (16 : Int32)) (hb hby at_230) (q := 232) rfl rfl ?_
          refine own_iand X1724 hx (hb hby at_232) (q := 233) rfl ?_
          refine own_if0P X1724 hx (hb hby at_233) (cd := .eq) (x := (((p1 &&& (2147483647 : Int32)) % (63 : Int32)) + (1 : Int32)) &&& (16 : Int32)) (pt := 245) (q := 236) (by decide) (by decide) rfl rfl (fun (c130 : ((((p1 &&& (2147483647 : Int32)) % (63 : Int32)) + (1 : Int32)) &&& (16 : Int32)) = (0 : Int32)) => ?_) (fun (c130 : ¬ (((((p1 &&& (2147483647 : Int32)) % (63 : Int32)) + (1 : Int32)) &&& (16 : Int32)) = (0 : Int32))) => ?_)
          · refine own_iload X1724 hx (hb hby at_245) (q := 247) rfl rfl ?_
            refine own_bipush X1724 hx (v := (32 : Int32)) (hb hby at_247) (q := 249) rfl rfl ?_
            refine own_iand X1724 hx (hb hby at_249) (q := 250) rfl ?_
            refine own_if0P X1724 hx (hb hby at_250) (cd := .eq) (x := (((p1 &&& (2147483647 : Int32)) % (63 : Int32)) + (1 : Int32)) &&& (32 : Int32)) (pt := 262) (q := 253) (by decide) (by decide) rfl rfl (fun (c131 : ((((p1 &&& (2147483647 : Int32)) % (63 : Int32)) + (1 : Int32)) &&& (32 : Int32)) = (0 : Int32)) => ?_) (fun (c131 : ¬ (((((p1 &&& (2147483647 : Int32)) % (63 : Int32)) + (1 : Int32)) &&& (32 : Int32)) = (0 : Int32))) => ?_)
            · exact J3 _ _ _ _ _ _ _ _ _ _ _ _ X1724 e1725 A1729 A1730 A1731 A1728 Z1732 N1733 (by unfold own_S3; decide)
            · refine own_aload X1724 hx (hb hby at_253) (q := 255) rfl rfl rfl ?_
              refine own_iload X1724 hx (hb hby at_255) (q := 257) rfl rfl ?_
              refine own_iconst X1724 hx (v := (5 : Int32)) (hb hby at_257) (q := 258) rfl rfl ?_
              refine own_iastore X1724 hx hZ (i := 3) e1725 A1728 (by decide) (by decide) (Nat.le_of_ble_eq_true rfl) (hb hby at_258) (q := 259) rfl (fun T1734 h1737 X1735 e1736 W1738 A1739 => ?_)
              replace A1739 : own_A Z h1737 a686 .int [.int (0 : Int32), .int (2 : Int32), .int (3 : Int32), .int (5 : Int32), .int (0 : Int32), .int (0 : Int32)] := A1739
              have A1740 := A1729.other W1738 ne693
              have A1741 := A1730.other W1738 ne694
              have A1742 := A1731.other W1738 ne695
              have Z1743 : n0 ≤ h1737.size := W1738.size ▸ Z1732
              have N1744 := Fr.snoc X1735 N1733 Z696
              refine own_iinc (L' := #[.val (.int p1), .val (.long q2), .second, .val (.long q3), .second, .val (.long q4), .second, .val (.int (((p1 &&& (2147483647 : Int32)) % (63 : Int32)) + (1 : Int32))), .val (.ref a488), .val (.ref a546), .val (.ref a612), .val (.ref a686), .val (.int ((3 : Int32) + (1 : Int32))), .unset, .unset]) X1735 hx (v := (1 : Int32)) (hb hby at_259) (q := 262) rfl rfl rfl rfl ?_
              rw [show ((3 : Int32) + (1 : Int32) : Int32) = (4 : Int32) from by decide]
              exact J4 _ _ _ _ _ _ _ _ _ _ _ _ _ X1735 e1736 A1740 A1741 A1742 A1739 Z1743 N1744 (by unfold own_S4; decide)
          · refine own_aload X1724 hx (hb hby at_236) (q := 238) rfl rfl rfl ?_
            refine own_iload X1724 hx (hb hby at_238) (q := 240) rfl rfl ?_
            refine own_iconst X1724 hx (v := (4 : Int32)) (hb hby at_240) (q := 241) rfl rfl ?_
            refine own_iastore X1724 hx hZ (i := 3) e1725 A1728 (by decide) (by decide) (Nat.le_of_ble_eq_true rfl) (hb hby at_241) (q := 242) rfl (fun T1745 h1748 X1746 e1747 W1749 A1750 => ?_)
            replace A1750 : own_A Z h1748 a686 .int [.int (0 : Int32), .int (2 : Int32), .int (3 : Int32), .int (4 : Int32), .int (0 : Int32), .int (0 : Int32)] := A1750
            have A1751 := A1729.other W1749 ne693
            have A1752 := A1730.other W1749 ne694
            have A1753 := A1731.other W1749 ne695
            have Z1754 : n0 ≤ h1748.size := W1749.size ▸ Z1732
            have N1755 := Fr.snoc X1746 N1733 Z696
            refine own_iinc (L' := #[.val (.int p1), .val (.long q2), .second, .val (.long q3), .second, .val (.long q4), .second, .val (.int (((p1 &&& (2147483647 : Int32)) % (63 : Int32)) + (1 : Int32))), .val (.ref a488), .val (.ref a546), .val (.ref a612), .val (.ref a686), .val (.int ((3 : Int32) + (1 : Int32))), .unset, .unset]) X1746 hx (v := (1 : Int32)) (hb hby at_242) (q := 245) rfl rfl rfl rfl ?_
            rw [show ((3 : Int32) + (1 : Int32) : Int32) = (4 : Int32) from by decide]
            refine own_iload X1746 hx (hb hby at_245) (q := 247) rfl rfl ?_
            refine own_bipush X1746 hx (v := (32 : Int32)) (hb hby at_247) (q := 249) rfl rfl ?_
            refine own_iand X1746 hx (hb hby at_249) (q := 250) rfl ?_
            refine own_if0P X1746 hx (hb hby at_250) (cd := .eq) (x := (((p1 &&& (2147483647 : Int32)) % (63 : Int32)) + (1 : Int32)) &&& (32 : Int32)) (pt := 262) (q := 253) (by decide) (by decide) rfl rfl (fun (c132 : ((((p1 &&& (2147483647 : Int32)) % (63 : Int32)) + (1 : Int32)) &&& (32 : Int32)) = (0 : Int32)) => ?_) (fun (c132 : ¬ (((((p1 &&& (2147483647 : Int32)) % (63 : Int32)) + (1 : Int32)) &&& (32 : Int32)) = (0 : Int32))) => ?_)
            · exact J4 _ _ _ _ _ _ _ _ _ _ _ _ _ X1746 e1747 A1751 A1752 A1753 A1750 Z1754 N1755 (by unfold own_S4; decide)
            · refine own_aload X1746 hx (hb hby at_253) (q := 255) rfl rfl rfl ?_
              refine own_iload X1746 hx (hb hby at_255) (q := 257) rfl rfl ?_
              refine own_iconst X1746 hx (v := (5 : Int32)) (hb hby at_257) (q := 258) rfl rfl ?_
              refine own_iastore X1746 hx hZ (i := 4) e1747 A1750 (by decide) (by decide) (Nat.le_of_ble_eq_true rfl) (hb hby at_258) (q := 259) rfl (fun T1756 h1759 X1757 e1758 W1760 A1761 => ?_)
              replace A1761 : own_A Z h1759 a686 .int [.int (0 : Int32), .int (2 : Int32), .int (3 : Int32), .int (4 : Int32), .int (5 : Int32), .int (0 : Int32)] := A1761
              have A1762 := A1751.other W1760 ne693
              have A1763 := A1752.other W1760 ne694
              have A1764 := A1753.other W1760 ne695
              have Z1765 : n0 ≤ h1759.size := W1760.size ▸ Z1754
              have N1766 := Fr.snoc X1757 N1755 Z696
              refine own_iinc (L' := #[.val (.int p1), .val (.long q2), .second, .val (.long q3), .second, .val (.long q4), .second, .val (.int (((p1 &&& (2147483647 : Int32)) % (63 : Int32)) + (1 : Int32))), .val (.ref a488), .val (.ref a546), .val (.ref a612), .val (.ref a686), .val (.int ((4 : Int32) + (1 : Int32))), .unset, .unset]) X1757 hx (v := (1 : Int32)) (hb hby at_259) (q := 262) rfl rfl rfl rfl ?_
              rw [show ((4 : Int32) + (1 : Int32) : Int32) = (5 : Int32) from by decide]
              exact J5 _ _ _ _ _ _ _ _ _ _ _ _ _ _ X1757 e1758 A1762 A1763 A1764 A1761 Z1765 N1766 (by unfold own_S5; decide)
    · refine own_aload X1592 hx (hb hby at_186) (q := 188) rfl rfl rfl ?_
      refine own_iload X1592 hx (hb hby at_188) (q := 190) rfl rfl ?_
      refine own_iconst X1592 hx (v := (1 : Int32)) (hb hby at_190) (q := 191) rfl rfl ?_
      refine own_iastore X1592 hx hZ (i := 1) e1593 A1596 (by decide) (by decide) (Nat.le_of_ble_eq_true rfl) (hb hby at_191) (q := 192) rfl (fun T1767 h1770 X1768 e1769 W1771 A1772 => ?_)
      replace A1772 : own_A Z h1770 a686 .int [.int (0 : Int32), .int (1 : Int32), .int (0 : Int32), .int (0 : Int32), .int (0 : Int32), .int (0 : Int32)] := A1772
      have A1773 := A1597.other W1771 ne693
      have A1774 := A1598.other W1771 ne694
      have A1775 := A1599.other W1771 ne695
      have Z1776 : n0 ≤ h1770.size := W1771.size ▸ Z1600
      have N1777 := Fr.snoc X1768 N1601 Z696
      refine own_iinc (L' := #[.val (.int p1), .val (.long q2), .second, .val (.long q3), .second, .val (.long q4), .second, .val (.int (((p1 &&& (2147483647 : Int32)) % (63 : Int32)) + (1 : Int32))), .val (.ref a488), .val (.ref a546), .val (.ref a612), .val (.ref a686), .val (.int ((1 : Int32) + (1 : Int32))), .unset, .unset]) X1768 hx (v := (1 : Int32)) (hb hby at_192) (q := 195) rfl rfl rfl rfl ?_
      rw [show ((1 : Int32) + (1 : Int32) : Int32) = (2 : Int32) from by decide]
      refine own_iload X1768 hx (hb hby at_195) (q := 197) rfl rfl ?_
      refine own_iconst X1768 hx (v := (4 : Int32)) (hb hby at_197) (q := 198) rfl rfl ?_
      refine own_iand X1768 hx (hb hby at_198) (q := 199) rfl ?_
      refine own_if0P X1768 hx (hb hby at_199) (cd := .eq) (x := (((p1 &&& (2147483647 : Int32)) % (63 : Int32)) + (1 : Int32)) &&& (4 : Int32)) (pt := 211) (q := 202) (by decide) (by decide) rfl rfl (fun (c133 : ((((p1 &&& (2147483647 : Int32)) % (63 : Int32)) + (1 : Int32)) &&& (4 : Int32)) = (0 : Int32)) => ?_) (fun (c133 : ¬ (((((p1 &&& (2147483647 : Int32)) % (63 : Int32)) + (1 : Int32)) &&& (4 : Int32)) = (0 : Int32))) => ?_)
      · refine own_iload X1768 hx (hb hby at_211) (q := 213) rfl rfl ?_
        refine own_bipush X1768 hx (v := (8 : Int32)) (hb hby at_213) (q := 215) rfl rfl ?_
        refine own_iand X1768 hx (hb hby at_215) (q := 216) rfl ?_
        refine own_if0P X1768 hx (hb hby at_216) (cd := .eq) (x := (((p1 &&& (2147483647 : Int32)) % (63 : Int32)) + (1 : Int32)) &&& (8 : Int32)) (pt := 228) (q := 219) (by decide) (by decide) rfl rfl (fun (c134 : ((((p1 &&& (2147483647 : Int32)) % (63 : Int32)) + (1 : Int32)) &&& (8 : Int32)) = (0 : Int32)) => ?_) (fun (c134 : ¬ (((((p1 &&& (2147483647 : Int32)) % (63 : Int32)) + (1 : Int32)) &&& (8 : Int32)) = (0 : Int32))) => ?_)
        · refine own_iload X1768 hx (hb hby at_228) (q := 230) rfl rfl ?_
          refine own_bipush X1768 hx (v := (16 : Int32)) (hb hby at_230) (q := 232) rfl rfl ?_
          refine own_iand X1768 hx (hb hby at_232) (q := 233) rfl ?_
          refine own_if0P X1768 hx (hb hby at_233) (cd := .eq) (x := (((p1 &&& (2147483647 : Int32)) % (63 : Int32)) + (1 : Int32)) &&& (16 : Int32)) (pt := 245) (q := 236) (by decide) (by decide) rfl rfl (fun (c135 : ((((p1 &&& (2147483647 : Int32)) % (63 : Int32)) + (1 : Int32)) &&& (16 : Int32)) = (0 : Int32)) => ?_) (fun (c135 : ¬ (((((p1 &&& (2147483647 : Int32)) % (63 : Int32)) + (1 : Int32)) &&& (16 : Int32)) = (0 : Int32))) => ?_)
          · refine own_iload X1768 hx (hb hby at_245) (q := 247) rfl rfl ?_
            refine own_bipush X1768 hx (v := (32 : Int32)) (hb hby at_247) (q := 249) rfl rfl ?_
            refine own_iand X1768 hx (hb hby at_249) (q := 250) rfl ?_
            refine own_if0P X1768 hx (hb hby at_250) (cd := .eq) (x := (((p1 &&& (2147483647 : Int32)) % (63 : Int32)) + (1 : Int32)) &&& (32 : Int32)) (pt := 262) (q := 253) (by decide) (by decide) rfl rfl (fun (c136 : ((((p1 &&& (2147483647 : Int32)) % (63 : Int32)) + (1 : Int32)) &&& (32 : Int32)) = (0 : Int32)) => ?_) (fun (c136 : ¬ (((((p1 &&& (2147483647 : Int32)) % (63 : Int32)) + (1 : Int32)) &&& (32 : Int32)) = (0 : Int32))) => ?_)
            · exact J2 _ _ _ _ _ _ _ _ _ _ _ X1768 e1769 A1773 A1774 A1775 A1772 Z1776 N1777 (by unfold own_S2; decide)
            · refine own_aload X1768 hx (hb hby at_253) (q := 255) rfl rfl rfl ?_
              refine own_iload X1768 hx (hb hby at_255) (q := 257) rfl rfl ?_
              refine own_iconst X1768 hx (v := (5 : Int32)) (hb hby at_257) (q := 258) rfl rfl ?_
              refine own_iastore X1768 hx hZ (i := 2) e1769 A1772 (by decide) (by decide) (Nat.le_of_ble_eq_true rfl) (hb hby at_258) (q := 259) rfl (fun T1778 h1781 X1779 e1780 W1782 A1783 => ?_)
              replace A1783 : own_A Z h1781 a686 .int [.int (0 : Int32), .int (1 : Int32), .int (5 : Int32), .int (0 : Int32), .int (0 : Int32), .int (0 : Int32)] := A1783
              have A1784 := A1773.other W1782 ne693
              have A1785 := A1774.other W1782 ne694
              have A1786 := A1775.other W1782 ne695
              have Z1787 : n0 ≤ h1781.size := W1782.size ▸ Z1776
              have N1788 := Fr.snoc X1779 N1777 Z696
              refine own_iinc (L' := #[.val (.int p1), .val (.long q2), .second, .val (.long q3), .second, .val (.long q4), .second, .val (.int (((p1 &&& (2147483647 : Int32)) % (63 : Int32)) + (1 : Int32))), .val (.ref a488), .val (.ref a546), .val (.ref a612), .val (.ref a686), .val (.int ((2 : Int32) + (1 : Int32))), .unset, .unset]) X1779 hx (v := (1 : Int32)) (hb hby at_259) (q := 262) rfl rfl rfl rfl ?_
              rw [show ((2 : Int32) + (1 : Int32) : Int32) = (3 : Int32) from by decide]
              exact J3 _ _ _ _ _ _ _ _ _ _ _ _ X1779 e1780 A1784 A1785 A1786 A1783 Z1787 N1788 (by unfold own_S3; decide)
          · refine own_aload X1768 hx (hb hby at_236) (q := 238) rfl rfl rfl ?_
            refine own_iload X1768 hx (hb hby at_238) (q := 240) rfl rfl ?_
            refine own_iconst X1768 hx (v := (4 : Int32)) (hb hby at_240) (q := 241) rfl rfl ?_
            refine own_iastore X1768 hx hZ (i := 2) e1769 A1772 (by decide) (by decide) (Nat.le_of_ble_eq_true rfl) (hb hby at_241) (q := 242) rfl (fun T1789 h1792 X1790 e1791 W1793 A1794 => ?_)
            replace A1794 : own_A Z h1792 a686 .int [.int (0 : Int32), .int (1 : Int32), .int (4 : Int32), .int (0 : Int32), .int (0 : Int32), .int (0 : Int32)] := A1794
            have A1795 := A1773.other W1793 ne693
            have A1796 := A1774.other W1793 ne694
            have A1797 := A1775.other W1793 ne695
            have Z1798 : n0 ≤ h1792.size := W1793.size ▸ Z1776
            have N1799 := Fr.snoc X1790 N1777 Z696
            refine own_iinc (L' := #[.val (.int p1), .val (.long q2), .second, .val (.long q3), .second, .val (.long q4), .second, .val (.int (((p1 &&& (2147483647 : Int32)) % (63 : Int32)) + (1 : Int32))), .val (.ref a488), .val (.ref a546), .val (.ref a612), .val (.ref a686), .val (.int ((2 : Int32) + (1 : Int32))), .unset, .unset]) X1790 hx (v := (1 : Int32)) (hb hby at_242) (q := 245) rfl rfl rfl rfl ?_
            rw [show ((2 : Int32) + (1 : Int32) : Int32) = (3 : Int32) from by decide]
            refine own_iload X1790 hx (hb hby at_245) (q := 247) rfl rfl ?_
            refine own_bipush X1790 hx (v := (32 : Int32)) (hb hby at_247) (q := 249) rfl rfl ?_
            refine own_iand X1790 hx (hb hby at_249) (q := 250) rfl ?_
            refine own_if0P X1790 hx (hb hby at_250) (cd := .eq) (x := (((p1 &&& (2147483647 : Int32)) % (63 : Int32)) + (1 : Int32)) &&& (32 : Int32)) (pt := 262) (q := 253) (by decide) (by decide) rfl rfl (fun (c137 : ((((p1 &&& (2147483647 : Int32)) % (63 : Int32)) + (1 : Int32)) &&& (32 : Int32)) = (0 : Int32)) => ?_) (fun (c137 : ¬ (((((p1 &&& (2147483647 : Int32)) % (63 : Int32)) + (1 : Int32)) &&& (32 : Int32)) = (0 : Int32))) => ?_)
            · exact J3 _ _ _ _ _ _ _ _ _ _ _ _ X1790 e1791 A1795 A1796 A1797 A1794 Z1798 N1799 (by unfold own_S3; decide)
            · refine own_aload X1790 hx (hb hby at_253) (q := 255) rfl rfl rfl ?_
              refine own_iload X1790 hx (hb hby at_255) (q := 257) rfl rfl ?_
              refine own_iconst X1790 hx (v := (5 : Int32)) (hb hby at_257) (q := 258) rfl rfl ?_
              refine own_iastore X1790 hx hZ (i := 3) e1791 A1794 (by decide) (by decide) (Nat.le_of_ble_eq_true rfl) (hb hby at_258) (q := 259) rfl (fun T1800 h1803 X1801 e1802 W1804 A1805 => ?_)
              replace A1805 : own_A Z h1803 a686 .int [.int (0 : Int32), .int (1 : Int32), .int (4 : Int32), .int (5 : Int32), .int (0 : Int32), .int (0 : Int32)] := A1805
              have A1806 := A1795.other W1804 ne693
              have A1807 := A1796.other W1804 ne694
              have A1808 := A1797.other W1804 ne695
              have Z1809 : n0 ≤ h1803.size := W1804.size ▸ Z1798
              have N1810 := Fr.snoc X1801 N1799 Z696
              refine own_iinc (L' := #[.val (.int p1), .val (.long q2), .second, .val (.long q3), .second, .val (.long q4), .second, .val (.int (((p1 &&& (2147483647 : Int32)) % (63 : Int32)) + (1 : Int32))), .val (.ref a488), .val (.ref a546), .val (.ref a612), .val (.ref a686), .val (.int ((3 : Int32) + (1 : Int32))), .unset, .unset]) X1801 hx (v := (1 : Int32)) (hb hby at_259) (q := 262) rfl rfl rfl rfl ?_
              rw [show ((3 : Int32) + (1 : Int32) : Int32) = (4 : Int32) from by decide]
              exact J4 _ _ _ _ _ _ _ _ _ _ _ _ _ X1801 e1802 A1806 A1807 A1808 A1805 Z1809 N1810 (by unfold own_S4; decide)
        · refine own_aload X1768 hx (hb hby at_219) (q := 221) rfl rfl rfl ?_
          refine own_iload X1768 hx (hb hby at_221) (q := 223) rfl rfl ?_
          refine own_iconst X1768 hx (v := (3 : Int32)) (hb hby at_223) (q := 224) rfl rfl ?_
          refine own_iastore X1768 hx hZ (i := 2) e1769 A1772 (by decide) (by decide) (Nat.le_of_ble_eq_true rfl) (hb hby at_224) (q := 225) rfl (fun T1811 h1814 X1812 e1813 W1815 A1816 => ?_)
          replace A1816 : own_A Z h1814 a686 .int [.int (0 : Int32), .int (1 : Int32), .int (3 : Int32), .int (0 : Int32), .int (0 : Int32), .int (0 : Int32)] := A1816
          have A1817 := A1773.other W1815 ne693
          have A1818 := A1774.other W1815 ne694
          have A1819 := A1775.other W1815 ne695
          have Z1820 : n0 ≤ h1814.size := W1815.size ▸ Z1776
          have N1821 := Fr.snoc X1812 N1777 Z696
          refine own_iinc (L' := #[.val (.int p1), .val (.long q2), .second, .val (.long q3), .second, .val (.long q4), .second, .val (.int (((p1 &&& (2147483647 : Int32)) % (63 : Int32)) + (1 : Int32))), .val (.ref a488), .val (.ref a546), .val (.ref a612), .val (.ref a686), .val (.int ((2 : Int32) + (1 : Int32))), .unset, .unset]) X1812 hx (v := (1 : Int32)) (hb hby at_225) (q := 228) rfl rfl rfl rfl ?_
          rw [show ((2 : Int32) + (1 : Int32) : Int32) = (3 : Int32) from by decide]
          refine own_iload X1812 hx (hb hby at_228) (q := 230) rfl rfl ?_
          refine own_bipush X1812 hx (v := (16 : Int32)) (hb hby at_230) (q := 232) rfl rfl ?_
          refine own_iand X1812 hx (hb hby at_232) (q := 233) rfl ?_
          refine own_if0P X1812 hx (hb hby at_233) (cd := .eq) (x := (((p1 &&& (2147483647 : Int32)) % (63 : Int32)) + (1 : Int32)) &&& (16 : Int32)) (pt := 245) (q := 236) (by decide) (by decide) rfl rfl (fun (c138 : ((((p1 &&& (2147483647 : Int32)) % (63 : Int32)) + (1 : Int32)) &&& (16 : Int32)) = (0 : Int32)) => ?_) (fun (c138 : ¬ (((((p1 &&& (2147483647 : Int32)) % (63 : Int32)) + (1 : Int32)) &&& (16 : Int32)) = (0 : Int32))) => ?_)
          · refine own_iload X1812 hx (hb hby at_245) (q := 247) rfl rfl ?_
            refine own_bipush X1812 hx (v := (32 : Int32)) (hb hby at_247) (q := 249) rfl rfl ?_
            refine own_iand X1812 hx (hb hby at_249) (q := 250) rfl ?_
            refine own_if0P X1812 hx (hb hby at_250) (cd := .eq) (x := (((p1 &&& (2147483647 : Int32)) % (63 : Int32)) + (1 : Int32)) &&& (32 : Int32)) (pt := 262) (q := 253) (by decide) (by decide) rfl rfl (fun (c139 : ((((p1 &&& (2147483647 : Int32)) % (63 : Int32)) + (1 : Int32)) &&& (32 : Int32)) = (0 : Int32)) => ?_) (fun (c139 : ¬ (((((p1 &&& (2147483647 : Int32)) % (63 : Int32)) + (1 : Int32)) &&& (32 : Int32)) = (0 : Int32))) => ?_)
            · exact J3 _ _ _ _ _ _ _ _ _ _ _ _ X1812 e1813 A1817 A1818 A1819 A1816 Z1820 N1821 (by unfold own_S3; decide)
            · refine own_aload X1812 hx (hb hby at_253) (q := 255) rfl rfl rfl ?_
              refine own_iload X1812 hx (hb hby at_255) (q := 257) rfl rfl ?_
              refine own_iconst X1812 hx (v := (5 : Int32)) (hb hby at_257) (q := 258) rfl rfl ?_
              refine own_iastore X1812 hx hZ (i := 3) e1813 A1816 (by decide) (by decide) (Nat.le_of_ble_eq_true rfl) (hb hby at_258) (q := 259) rfl (fun T1822 h1825 X1823 e1824 W1826 A1827 => ?_)
              replace A1827 : own_A Z h1825 a686 .int [.int (0 : Int32), .int (1 : Int32), .int (3 : Int32), .int (5 : Int32), .int (0 : Int32), .int (0 : Int32)] := A1827
              have A1828 := A1817.other W1826 ne693
              have A1829 := A1818.other W1826 ne694
              have A1830 := A1819.other W1826 ne695
              have Z1831 : n0 ≤ h1825.size := W1826.size ▸ Z1820
              have N1832 := Fr.snoc X1823 N1821 Z696
              refine own_iinc (L' := #[.val (.int p1), .val (.long q2), .second, .val (.long q3), .second, .val (.long q4), .second, .val (.int (((p1 &&& (2147483647 : Int32)) % (63 : Int32)) + (1 : Int32))), .val (.ref a488), .val (.ref a546), .val (.ref a612), .val (.ref a686), .val (.int ((3 : Int32) + (1 : Int32))), .unset, .unset]) X1823 hx (v := (1 : Int32)) (hb hby at_259) (q := 262) rfl rfl rfl rfl ?_
              rw [show ((3 : Int32) + (1 : Int32) : Int32) = (4 : Int32) from by decide]
              exact J4 _ _ _ _ _ _ _ _ _ _ _ _ _ X1823 e1824 A1828 A1829 A1830 A1827 Z1831 N1832 (by unfold own_S4; decide)
          · refine own_aload X1812 hx (hb hby at_236) (q := 238) rfl rfl rfl ?_
            refine own_iload X1812 hx (hb hby at_238) (q := 240) rfl rfl ?_
            refine own_iconst X1812 hx (v := (4 : Int32)) (hb hby at_240) (q := 241) rfl rfl ?_
            refine own_iastore X1812 hx hZ (i := 3) e1813 A1816 (by decide) (by decide) (Nat.le_of_ble_eq_true rfl) (hb hby at_241) (q := 242) rfl (fun T1833 h1836 X1834 e1835 W1837 A1838 => ?_)
            replace A1838 : own_A Z h1836 a686 .int [.int (0 : Int32), .int (1 : Int32), .int (3 : Int32), .int (4 : Int32), .int (0 : Int32), .int (0 : Int32)] := A1838
            have A1839 := A1817.other W1837 ne693
            have A1840 := A1818.other W1837 ne694
            have A1841 := A1819.other W1837 ne695
            have Z1842 : n0 ≤ h1836.size := W1837.size ▸ Z1820
            have N1843 := Fr.snoc X1834 N1821 Z696
            refine own_iinc (L' := #[.val (.int p1), .val (.long q2), .second, .val (.long q3), .second, .val (.long q4), .second, .val (.int (((p1 &&& (2147483647 : Int32)) % (63 : Int32)) + (1 : Int32))), .val (.ref a488), .val (.ref a546), .val (.ref a612), .val (.ref a686), .val (.int ((3 : Int32) + (1 : Int32))), .unset, .unset]) X1834 hx (v := (1 : Int32)) (hb hby at_242) (q := 245) rfl rfl rfl rfl ?_
            rw [show ((3 : Int32) + (1 : Int32) : Int32) = (4 : Int32) from by decide]
            refine own_iload X1834 hx (hb hby at_245) (q := 247) rfl rfl ?_
            refine own_bipush X1834 hx (v := (32 : Int32)) (hb hby at_247) (q := 249) rfl rfl ?_
            refine own_iand X1834 hx (hb hby at_249) (q := 250) rfl ?_
            refine own_if0P X1834 hx (hb hby at_250) (cd := .eq) (x := (((p1 &&& (2147483647 : Int32)) % (63 : Int32)) + (1 : Int32)) &&& (32 : Int32)) (pt := 262) (q := 253) (by decide) (by decide) rfl rfl (fun (c140 : ((((p1 &&& (2147483647 : Int32)) % (63 : Int32)) + (1 : Int32)) &&& (32 : Int32)) = (0 : Int32)) => ?_) (fun (c140 : ¬ (((((p1 &&& (2147483647 : Int32)) % (63 : Int32)) + (1 : Int32)) &&& (32 : Int32)) = (0 : Int32))) => ?_)
            · exact J4 _ _ _ _ _ _ _ _ _ _ _ _ _ X1834 e1835 A1839 A1840 A1841 A1838 Z1842 N1843 (by unfold own_S4; decide)
            · refine own_aload X1834 hx (hb hby at_253) (q := 255) rfl rfl rfl ?_
              refine own_iload X1834 hx (hb hby at_255) (q := 257) rfl rfl ?_
              refine own_iconst X1834 hx (v := (5 : Int32)) (hb hby at_257) (q := 258) rfl rfl ?_
              refine own_iastore X1834 hx hZ (i := 4) e1835 A1838 (by decide) (by decide) (Nat.le_of_ble_eq_true rfl) (hb hby at_258) (q := 259) rfl (fun T1844 h1847 X1845 e1846 W1848 A1849 => ?_)
              replace A1849 : own_A Z h1847 a686 .int [.int (0 : Int32), .int (1 : Int32), .int (3 : Int32), .int (4 : Int32), .int (5 : Int32), .int (0 : Int32)] := A1849
              have A1850 := A1839.other W1848 ne693
              have A1851 := A1840.other W1848 ne694
              have A1852 := A1841.other W1848 ne695
              have Z1853 : n0 ≤ h1847.size := W1848.size ▸ Z1842
              have N1854 := Fr.snoc X1845 N1843 Z696
              refine own_iinc (L' := #[.val (.int p1), .val (.long q2), .second, .val (.long q3), .second, .val (.long q4), .second, .val (.int (((p1 &&& (2147483647 : Int32)) % (63 : Int32)) + (1 : Int32))), .val (.ref a488), .val (.ref a546), .val (.ref a612), .val (.ref a686), .val (.int ((4 : Int32) + (1 : Int32))), .unset, .unset]) X1845 hx (v := (1 : Int32)) (hb hby at_259) (q := 262) rfl rfl rfl rfl ?_
              rw [show ((4 : Int32) + (1 : Int32) : Int32) = (5 : Int32) from by decide]
              exact J5 _ _ _ _ _ _ _ _ _ _ _ _ _ _ X1845 e1846 A1850 A1851 A1852 A1849 Z1853 N1854 (by unfold own_S5; decide)
      · refine own_aload X1768 hx (hb hby at_202) (q := 204) rfl rfl rfl ?_
        refine own_iload X1768 hx (hb hby at_204) (q := 206) rfl rfl ?_
        refine own_iconst X1768 hx (v := (2 : Int32)) (hb hby at_206) (q := 207) rfl rfl ?_
        refine own_iastore X1768 hx hZ (i := 2) e1769 A1772 (by decide) (by decide) (Nat.le_of_ble_eq_true rfl) (hb hby at_207) (q := 208) rfl (fun T1855 h1858 X1856 e1857 W1859 A1860 => ?_)
        replace A1860 : own_A Z h1858 a686 .int [.int (0 : Int32), .int (1 : Int32), .int (2 : Int32), .int (0 : Int32), .int (0 : Int32), .int (0 : Int32)] := A1860
        have A1861 := A1773.other W1859 ne693
        have A1862 := A1774.other W1859 ne694
        have A1863 := A1775.other W1859 ne695
        have Z1864 : n0 ≤ h1858.size := W1859.size ▸ Z1776
        have N1865 := Fr.snoc X1856 N1777 Z696
        refine own_iinc (L' := #[.val (.int p1), .val (.long q2), .second, .val (.long q3), .second, .val (.long q4), .second, .val (.int (((p1 &&& (2147483647 : Int32)) % (63 : Int32)) + (1 : Int32))), .val (.ref a488), .val (.ref a546), .val (.ref a612), .val (.ref a686), .val (.int ((2 : Int32) + (1 : Int32))), .unset, .unset]) X1856 hx (v := (1 : Int32)) (hb hby at_208) (q := 211) rfl rfl rfl rfl ?_
        rw [show ((2 : Int32) + (1 : Int32) : Int32) = (3 : Int32) from by decide]
        refine own_iload X1856 hx (hb hby at_211) (q := 213) rfl rfl ?_
        refine own_bipush X1856 hx (v := (8 : Int32)) (hb hby at_213) (q := 215) rfl rfl ?_
        refine own_iand X1856 hx (hb hby at_215) (q := 216) rfl ?_
        refine own_if0P X1856 hx (hb hby at_216) (cd := .eq) (x := (((p1 &&& (2147483647 : Int32)) % (63 : Int32)) + (1 : Int32)) &&& (8 : Int32)) (pt := 228) (q := 219) (by decide) (by decide) rfl rfl (fun (c141 : ((((p1 &&& (2147483647 : Int32)) % (63 : Int32)) + (1 : Int32)) &&& (8 : Int32)) = (0 : Int32)) => ?_) (fun (c141 : ¬ (((((p1 &&& (2147483647 : Int32)) % (63 : Int32)) + (1 : Int32)) &&& (8 : Int32)) = (0 : Int32))) => ?_)
        · refine own_iload X1856 hx (hb hby at_228) (q := 230) rfl rfl ?_
          refine own_bipush X1856 hx (v := (16 : Int32)) (hb hby at_230) (q := 232) rfl rfl ?_
          refine own_iand X1856 hx (hb hby at_232) (q := 233) rfl ?_
          refine own_if0P X1856 hx (hb hby at_233) (cd := .eq) (x := (((p1 &&& (2147483647 : Int32)) % (63 : Int32)) + (1 : Int32)) &&& (16 : Int32)) (pt := 245) (q := 236) (by decide) (by decide) rfl rfl (fun (c142 : ((((p1 &&& (2147483647 : Int32)) % (63 : Int32)) + (1 : Int32)) &&& (16 : Int32)) = (0 : Int32)) => ?_) (fun (c142 : ¬ (((((p1 &&& (2147483647 : Int32)) % (63 : Int32)) + (1 : Int32)) &&& (16 : Int32)) = (0 : Int32))) => ?_)
          · refine own_iload X1856 hx (hb hby at_245) (q := 247) rfl rfl ?_
            refine own_bipush X1856 hx (v := (32 : Int32)) (hb hby at_247) (q := 249) rfl rfl ?_
            refine own_iand X1856 hx (hb hby at_249) (q := 250) rfl ?_
            refine own_if0P X1856 hx (hb hby at_250) (cd := .eq) (x := (((p1 &&& (2147483647 : Int32)) % (63 : Int32)) + (1 : Int32)) &&& (32 : Int32)) (pt := 262) (q := 253) (by decide) (by decide) rfl rfl (fun (c143 : ((((p1 &&& (2147483647 : Int32)) % (63 : Int32)) + (1 : Int32)) &&& (32 : Int32)) = (0 : Int32)) => ?_) (fun (c143 : ¬ (((((p1 &&& (2147483647 : Int32)) % (63 : Int32)) + (1 : Int32)) &&& (32 : Int32)) = (0 : Int32))) => ?_)
            · exact J3 _ _ _ _ _ _ _ _ _ _ _ _ X1856 e1857 A1861 A1862 A1863 A1860 Z1864 N1865 (by unfold own_S3; decide)
            · refine own_aload X1856 hx (hb hby at_253) (q := 255) rfl rfl rfl ?_
              refine own_iload X1856 hx (hb hby at_255) (q := 257) rfl rfl ?_
              refine own_iconst X1856 hx (v := (5 : Int32)) (hb hby at_257) (q := 258) rfl rfl ?_
              refine own_iastore X1856 hx hZ (i := 3) e1857 A1860 (by decide) (by decide) (Nat.le_of_ble_eq_true rfl) (hb hby at_258) (q := 259) rfl (fun T1866 h1869 X1867 e1868 W1870 A1871 => ?_)
              replace A1871 : own_A Z h1869 a686 .int [.int (0 : Int32), .int (1 : Int32), .int (2 : Int32), .int (5 : Int32), .int (0 : Int32), .int (0 : Int32)] := A1871
              have A1872 := A1861.other W1870 ne693
              have A1873 := A1862.other W1870 ne694
              have A1874 := A1863.other W1870 ne695
              have Z1875 : n0 ≤ h1869.size := W1870.size ▸ Z1864
              have N1876 := Fr.snoc X1867 N1865 Z696
              refine own_iinc (L' := #[.val (.int p1), .val (.long q2), .second, .val (.long q3), .second, .val (.long q4), .second, .val (.int (((p1 &&& (2147483647 : Int32)) % (63 : Int32)) + (1 : Int32))), .val (.ref a488), .val (.ref a546), .val (.ref a612), .val (.ref a686), .val (.int ((3 : Int32) + (1 : Int32))), .unset, .unset]) X1867 hx (v := (1 : Int32)) (hb hby at_259) (q := 262) rfl rfl rfl rfl ?_
              rw [show ((3 : Int32) + (1 : Int32) : Int32) = (4 : Int32) from by decide]
              exact J4 _ _ _ _ _ _ _ _ _ _ _ _ _ X1867 e1868 A1872 A1873 A1874 A1871 Z1875 N1876 (by unfold own_S4; decide)
          · refine own_aload X1856 hx (hb hby at_236) (q := 238) rfl rfl rfl ?_
            refine own_iload X1856 hx (hb hby at_238) (q := 240) rfl rfl ?_
            refine own_iconst X1856 hx (v := (4 : Int32)) (hb hby at_240) (q := 241) rfl rfl ?_
            refine own_iastore X1856 hx hZ (i := 3) e1857 A1860 (by decide) (by decide) (Nat.le_of_ble_eq_true rfl) (hb hby at_241) (q := 242) rfl (fun T1877 h1880 X1878 e1879 W1881 A1882 => ?_)
            replace A1882 : own_A Z h1880 a686 .int [.int (0 : Int32), .int (1 : Int32), .int (2 : Int32), .int (4 : Int32), .int (0 : Int32), .int (0 : Int32)] := A1882
            have A1883 := A1861.other W1881 ne693
            have A1884 := A1862.other W1881 ne694
            have A1885 := A1863.other W1881 ne695
            have Z1886 : n0 ≤ h1880.size := W1881.size ▸ Z1864
            have N1887 := Fr.snoc X1878 N1865 Z696
            refine own_iinc (L' := #[.val (.int p1), .val (.long q2), .second, .val (.long q3), .second, .val (.long q4), .second, .val (.int (((p1 &&& (2147483647 : Int32)) % (63 : Int32)) + (1 : Int32))), .val (.ref a488), .val (.ref a546), .val (.ref a612), .val (.ref a686), .val (.int ((3 : Int32) + (1 : Int32))), .unset, .unset]) X1878 hx (v := (1 : Int32)) (hb hby at_242) (q := 245) rfl rfl rfl rfl ?_
            rw [show ((3 : Int32) + (1 : Int32) : Int32) = (4 : Int32) from by decide]
            refine own_iload X1878 hx (hb hby at_245) (q := 247) rfl rfl ?_
            refine own_bipush X1878 hx (v := (32 : Int32)) (hb hby at_247) (q := 249) rfl rfl ?_
            refine own_iand X1878 hx (hb hby at_249) (q := 250) rfl ?_
            refine own_if0P X1878 hx (hb hby at_250) (cd := .eq) (x := (((p1 &&& (2147483647 : Int32)) % (63 : Int32)) + (1 : Int32)) &&& (32 : Int32)) (pt := 262) (q := 253) (by decide) (by decide) rfl rfl (fun (c144 : ((((p1 &&& (2147483647 : Int32)) % (63 : Int32)) + (1 : Int32)) &&& (32 : Int32)) = (0 : Int32)) => ?_) (fun (c144 : ¬ (((((p1 &&& (2147483647 : Int32)) % (63 : Int32)) + (1 : Int32)) &&& (32 : Int32)) = (0 : Int32))) => ?_)
            · exact J4 _ _ _ _ _ _ _ _ _ _ _ _ _ X1878 e1879 A1883 A1884 A1885 A1882 Z1886 N1887 (by unfold own_S4; decide)
            · refine own_aload X1878 hx (hb hby at_253) (q := 255) rfl rfl rfl ?_
              refine own_iload X1878 hx (hb hby at_255) (q := 257) rfl rfl ?_
              refine own_iconst X1878 hx (v := (5 : Int32)) (hb hby at_257) (q := 258) rfl rfl ?_
              refine own_iastore X1878 hx hZ (i := 4) e1879 A1882 (by decide) (by decide) (Nat.le_of_ble_eq_true rfl) (hb hby at_258) (q := 259) rfl (fun T1888 h1891 X1889 e1890 W1892 A1893 => ?_)
              replace A1893 : own_A Z h1891 a686 .int [.int (0 : Int32), .int (1 : Int32), .int (2 : Int32), .int (4 : Int32), .int (5 : Int32), .int (0 : Int32)] := A1893
              have A1894 := A1883.other W1892 ne693
              have A1895 := A1884.other W1892 ne694
              have A1896 := A1885.other W1892 ne695
              have Z1897 : n0 ≤ h1891.size := W1892.size ▸ Z1886
              have N1898 := Fr.snoc X1889 N1887 Z696
              refine own_iinc (L' := #[.val (.int p1), .val (.long q2), .second, .val (.long q3), .second, .val (.long q4), .second, .val (.int (((p1 &&& (2147483647 : Int32)) % (63 : Int32)) + (1 : Int32))), .val (.ref a488), .val (.ref a546), .val (.ref a612), .val (.ref a686), .val (.int ((4 : Int32) + (1 : Int32))), .unset, .unset]) X1889 hx (v := (1 : Int32)) (hb hby at_259) (q := 262) rfl rfl rfl rfl ?_
              rw [show ((4 : Int32) + (1 : Int32) : Int32) = (5 : Int32) from by decide]
              exact J5 _ _ _ _ _ _ _ _ _ _ _ _ _ _ X1889 e1890 A1894 A1895 A1896 A1893 Z1897 N1898 (by unfold own_S5; decide)
        · refine own_aload X1856 hx (hb hby at_219) (q := 221) rfl rfl rfl ?_
          refine own_iload X1856 hx (hb hby at_221) (q := 223) rfl rfl ?_
          refine own_iconst X1856 hx (v := (3 : Int32)) (hb hby at_223) (q := 224) rfl rfl ?_
          refine own_iastore X1856 hx hZ (i := 3) e1857 A1860 (by decide) (by decide) (Nat.le_of_ble_eq_true rfl) (hb hby at_224) (q := 225) rfl (fun T1899 h1902 X1900 e1901 W1903 A1904 => ?_)
          replace A1904 : own_A Z h1902 a686 .int [.int (0 : Int32), .int (1 : Int32), .int (2 : Int32), .int (3 : Int32), .int (0 : Int32), .int (0 : Int32)] := A1904
          have A1905 := A1861.other W1903 ne693
          have A1906 := A1862.other W1903 ne694
          have A1907 := A1863.other W1903 ne695
          have Z1908 : n0 ≤ h1902.size := W1903.size ▸ Z1864
          have N1909 := Fr.snoc X1900 N1865 Z696
          refine own_iinc (L' := #[.val (.int p1), .val (.long q2), .second, .val (.long q3), .second, .val (.long q4), .second, .val (.int (((p1 &&& (2147483647 : Int32)) % (63 : Int32)) + (1 : Int32))), .val (.ref a488), .val (.ref a546), .val (.ref a612), .val (.ref a686), .val (.int ((3 : Int32) + (1 : Int32))), .unset, .unset]) X1900 hx (v := (1 : Int32)) (hb hby at_225) (q := 228) rfl rfl rfl rfl ?_
          rw [show ((3 : Int32) + (1 : Int32) : Int32) = (4 : Int32) from by decide]
          refine own_iload X1900 hx (hb hby at_228) (q := 230) rfl rfl ?_
          refine own_bipush X1900 hx (v := (16 : Int32)) (hb hby at_230) (q := 232) rfl rfl ?_
          refine own_iand X1900 hx (hb hby at_232) (q := 233) rfl ?_
          refine own_if0P X1900 hx (hb hby at_233) (cd := .eq) (x := (((p1 &&& (2147483647 : Int32)) % (63 : Int32)) + (1 : Int32)) &&& (16 : Int32)) (pt := 245) (q := 236) (by decide) (by decide) rfl rfl (fun (c145 : ((((p1 &&& (2147483647 : Int32)) % (63 : Int32)) + (1 : Int32)) &&& (16 : Int32)) = (0 : Int32)) => ?_) (fun (c145 : ¬ (((((p1 &&& (2147483647 : Int32)) % (63 : Int32)) + (1 : Int32)) &&& (16 : Int32)) = (0 : Int32))) => ?_)
          · refine own_iload X1900 hx (hb hby at_245) (q := 247) rfl rfl ?_
            refine own_bipush X1900 hx (v := (32 : Int32)) (hb hby at_247) (q := 249) rfl rfl ?_
            refine own_iand X1900 hx (hb hby at_249) (q := 250) rfl ?_
            refine own_if0P X1900 hx (hb hby at_250) (cd := .eq) (x := (((p1 &&& (2147483647 : Int32)) % (63 : Int32)) + (1 : Int32)) &&& (32 : Int32)) (pt := 262) (q := 253) (by decide) (by decide) rfl rfl (fun (c146 : ((((p1 &&& (2147483647 : Int32)) % (63 : Int32)) + (1 : Int32)) &&& (32 : Int32)) = (0 : Int32)) => ?_) (fun (c146 : ¬ (((((p1 &&& (2147483647 : Int32)) % (63 : Int32)) + (1 : Int32)) &&& (32 : Int32)) = (0 : Int32))) => ?_)
            · exact J4 _ _ _ _ _ _ _ _ _ _ _ _ _ X1900 e1901 A1905 A1906 A1907 A1904 Z1908 N1909 (by unfold own_S4; decide)
            · refine own_aload X1900 hx (hb hby at_253) (q := 255) rfl rfl rfl ?_
              refine own_iload X1900 hx (hb hby at_255) (q := 257) rfl rfl ?_
              refine own_iconst X1900 hx (v := (5 : Int32)) (hb hby at_257) (q := 258) rfl rfl ?_
              refine own_iastore X1900 hx hZ (i := 4) e1901 A1904 (by decide) (by decide) (Nat.le_of_ble_eq_true rfl) (hb hby at_258) (q := 259) rfl (fun T1910 h1913 X1911 e1912 W1914 A1915 => ?_)
              replace A1915 : own_A Z h1913 a686 .int [.int (0 : Int32), .int (1 : Int32), .int (2 : Int32), .int (3 : Int32), .int (5 : Int32), .int (0 : Int32)] := A1915
              have A1916 := A1905.other W1914 ne693
              have A1917 := A1906.other W1914 ne694
              have A1918 := A1907.other W1914 ne695
              have Z1919 : n0 ≤ h1913.size := W1914.size ▸ Z1908
              have N1920 := Fr.snoc X1911 N1909 Z696
              refine own_iinc (L' := #[.val (.int p1), .val (.long q2), .second, .val (.long q3), .second, .val (.long q4), .second, .val (.int (((p1 &&& (2147483647 : Int32)) % (63 : Int32)) + (1 : Int32))), .val (.ref a488), .val (.ref a546), .val (.ref a612), .val (.ref a686), .val (.int ((4 : Int32) + (1 : Int32))), .unset, .unset]) X1911 hx (v := (1 : Int32)) (hb hby at_259) (q := 262) rfl rfl rfl rfl ?_
              rw [show ((4 : Int32) + (1 : Int32) : Int32) = (5 : Int32) from by decide]
              exact J5 _ _ _ _ _ _ _ _ _ _ _ _ _ _ X1911 e1912 A1916 A1917 A1918 A1915 Z1919 N1920 (by unfold own_S5; decide)
          · refine own_aload X1900 hx (hb hby at_236) (q := 238) rfl rfl rfl ?_
            refine own_iload X1900 hx (hb hby at_238) (q := 240) rfl rfl ?_
            refine own_iconst X1900 hx (v := (4 : Int32)) (hb hby at_240) (q := 241) rfl rfl ?_
            refine own_iastore X1900 hx hZ (i := 4) e1901 A1904 (by decide) (by decide) (Nat.le_of_ble_eq_true rfl) (hb hby at_241) (q := 242) rfl (fun T1921 h1924 X1922 e1923 W1925 A1926 => ?_)
            replace A1926 : own_A Z h1924 a686 .int [.int (0 : Int32), .int (1 : Int32), .int (2 : Int32), .int (3 : Int32), .int (4 : Int32), .int (0 : Int32)] := A1926
            have A1927 := A1905.other W1925 ne693
            have A1928 := A1906.other W1925 ne694
            have A1929 := A1907.other W1925 ne695
            have Z1930 : n0 ≤ h1924.size := W1925.size ▸ Z1908
            have N1931 := Fr.snoc X1922 N1909 Z696
            refine own_iinc (L' := #[.val (.int p1), .val (.long q2), .second, .val (.long q3), .second, .val (.long q4), .second, .val (.int (((p1 &&& (2147483647 : Int32)) % (63 : Int32)) + (1 : Int32))), .val (.ref a488), .val (.ref a546), .val (.ref a612), .val (.ref a686), .val (.int ((4 : Int32) + (1 : Int32))), .unset, .unset]) X1922 hx (v := (1 : Int32)) (hb hby at_242) (q := 245) rfl rfl rfl rfl ?_
            rw [show ((4 : Int32) + (1 : Int32) : Int32) = (5 : Int32) from by decide]
            refine own_iload X1922 hx (hb hby at_245) (q := 247) rfl rfl ?_
            refine own_bipush X1922 hx (v := (32 : Int32)) (hb hby at_247) (q := 249) rfl rfl ?_
            refine own_iand X1922 hx (hb hby at_249) (q := 250) rfl ?_
            refine own_if0P X1922 hx (hb hby at_250) (cd := .eq) (x := (((p1 &&& (2147483647 : Int32)) % (63 : Int32)) + (1 : Int32)) &&& (32 : Int32)) (pt := 262) (q := 253) (by decide) (by decide) rfl rfl (fun (c147 : ((((p1 &&& (2147483647 : Int32)) % (63 : Int32)) + (1 : Int32)) &&& (32 : Int32)) = (0 : Int32)) => ?_) (fun (c147 : ¬ (((((p1 &&& (2147483647 : Int32)) % (63 : Int32)) + (1 : Int32)) &&& (32 : Int32)) = (0 : Int32))) => ?_)
            · exact J5 _ _ _ _ _ _ _ _ _ _ _ _ _ _ X1922 e1923 A1927 A1928 A1929 A1926 Z1930 N1931 (by unfold own_S5; decide)
            · refine own_aload X1922 hx (hb hby at_253) (q := 255) rfl rfl rfl ?_
              refine own_iload X1922 hx (hb hby at_255) (q := 257) rfl rfl ?_
              refine own_iconst X1922 hx (v := (5 : Int32)) (hb hby at_257) (q := 258) rfl rfl ?_
              refine own_iastore X1922 hx hZ (i := 5) e1923 A1926 (by decide) (by decide) (Nat.le_of_ble_eq_true rfl) (hb hby at_258) (q := 259) rfl (fun T1932 h1935 X1933 e1934 W1936 A1937 => ?_)
              replace A1937 : own_A Z h1935 a686 .int [.int (0 : Int32), .int (1 : Int32), .int (2 : Int32), .int (3 : Int32), .int (4 : Int32), .int (5 : Int32)] := A1937
              have A1938 := A1927.other W1936 ne693
              have A1939 := A1928.other W1936 ne694
              have A1940 := A1929.other W1936 ne695
              have Z1941 : n0 ≤ h1935.size := W1936.size ▸ Z1930
              have N1942 := Fr.snoc X1933 N1931 Z696
              refine own_iinc (L' := #[.val (.int p1), .val (.long q2), .second, .val (.long q3), .second, .val (.long q4), .second, .val (.int (((p1 &&& (2147483647 : Int32)) % (63 : Int32)) + (1 : Int32))), .val (.ref a488), .val (.ref a546), .val (.ref a612), .val (.ref a686), .val (.int ((5 : Int32) + (1 : Int32))), .unset, .unset]) X1933 hx (v := (1 : Int32)) (hb hby at_259) (q := 262) rfl rfl rfl rfl ?_
              rw [show ((5 : Int32) + (1 : Int32) : Int32) = (6 : Int32) from by decide]
              exact J6 _ _ _ _ _ _ _ _ _ _ _ _ _ _ _ X1933 e1934 A1938 A1939 A1940 A1937 Z1941 N1942 (by unfold own_S6; decide)
set_option maxRecDepth 65536 in
set_option maxHeartbeats 40000000 in
theorem comes_1 {Post : Tables → Env → Array Value → State → Outcome → State → Prop} (hpost : ∀ tb e args s v u, (limb_1_1.after args s (.returned v) u = true ∧ limb_1_2.after args s (.returned v) u = true ∧ True) → FrameEnd s (.returned v) u (Jvm.fieldLocs frame_1_writes args s ++ Jvm.arrayLocs frame_1_arrays args s ++ Jvm.staticLocs frame_1_statics s) 24 128 → Post tb e args s (.returned v) u) :
    ArmFor flags0 classFile x code maxLocals ret World_1 tables_1 room_1 Calls_1 rest_1 Pre_1 Post := by
  intro l hfl _ _ p e ha hc hk s m args below hf hA hF happ hP
  obtain ⟨hcalls, hrest, hpre⟩ := hP
  obtain ⟨-, -, -, hnamed, -, -, -, hat⟩ := (Spec.applies_iff hf).mp happ
  obtain ⟨hg, hn⟩ := and_e (Cond.before_iff.mp (show (Jvm.Cond.and given_1 narrow_1).before args s = true from hpre))
  obtain ⟨h1, g0⟩ := and_e hg
  obtain ⟨k0, g1⟩ := and_e g0
  obtain ⟨k1, g2⟩ := and_e g1
  obtain ⟨k2, g3⟩ := and_e g2
  have k3 := g3
  obtain ⟨w0, w1, w2, w3, rfl⟩ : ∃ w0 w1 w2 w3 : Value, args = #[w0, w1, w2, w3] := by
    have hs : args.size = 4 := by simpa [Cond.value, given_1] using h1
    obtain ⟨L⟩ := args
    match L, hs with
    | [w0, w1, w2, w3], _ => exact ⟨w0, w1, w2, w3, rfl⟩
  have hw := fun d (hd : d ∈ tables_1) => atoms_spec (ws := Jvm.Cond.code x code maxLocals ret :: tables_1) hat d (List.mem_cons_of_mem _ hd)
  have hfit : Fit s := fun {y c} hc i hi => by
    obtain ⟨ha, rfl⟩ := Array.getElem?_eq_some_iff.mp hc
    have q := List.all_eq_true.mp ((Array.all_eq_true_iff_forall_mem.mp hF) _ (Array.getElem_mem ha)) i (List.mem_range.mpr hi)
    simpa [Array.getElem?_eq_getElem hi] using q
  obtain ⟨i0, e0⟩ := is_v k0
  obtain rfl : w0 = (.int i0) := Option.some.inj e0
  obtain ⟨i1, e1⟩ := isL_v k1
  obtain rfl : w1 = (.long i1) := Option.some.inj e1
  obtain ⟨i2, e2⟩ := isL_v k2
  obtain rfl : w2 = (.long i2) := Option.some.inj e2
  obtain ⟨i3, e3⟩ := isL_v k3
  obtain rfl : w3 = (.long i3) := Option.some.inj e3
  obtain ⟨n, o, h1, h2, h3, _, L, rfl, ⟨rfl, N⟩, hq⟩ := rm0 l s _ hw tables_1 i0 i1 i2 i3 s.heap s.heap.size (Nat.le_refl _)  p e ha hc hk s m _ below hf ((Spec.applies_iff_loose hf).mp happ).1 ⟨rfl, State.Warmed39.refl s, rfl⟩ trivial
  refine ⟨n, _, h1, h2, h3, hpost _ _ _ _ _ _ ⟨Cond.after_iff.mpr rfl, Cond.after_iff.mpr (eq_i res_at (Term.int_eval (1)) rfl), trivial⟩ ⟨hq.1, hq.2.1, (hq.2.2.sift fun y hy => Or.inr (N y hy)).mono (by decide) (by decide)⟩⟩
theorem main_1_1 : Claimed_1_1 := comes_1 fun _ _ _ _ _ _ h hF => ⟨h.1, hF⟩
theorem main_1_2 : Claimed_1_2 := comes_1 fun _ _ _ _ _ _ h hF => ⟨h.2.1, hF⟩
end Jvm.Pilot.@@N@@
namespace Jvm.Pilot.@@N@@
open Jvm Jvm.ClassFile Sem Op Lib Jvm.Free Jvm.Stand Jvm.Pilot.@@N@@.Jvm.D
/-! MADE BY PROGRAM (witnessworld.py) out of the Statement's table words and the real class files: 9 classes; the members and pool entries that the words name. The judged class is class 1, her method 1. -/
namespace start1
open Jvm.ClassFile
def u (s : String) : CpInfo := .utf8 (stringToUtf16 s)
/-- a pool by its gaps: so many unusable entries, then the entry; so many at the end -/
def gap : Nat → List CpInfo → List CpInfo
  | 0, r => r
  | n + 1, r => .unusable :: gap n r
def poolList (es : List (Nat × CpInfo)) (last : Nat) : List CpInfo := es.foldr (fun e r => gap e.1 (e.2 :: r)) (gap last [])
def pool (es : List (Nat × CpInfo)) (last : Nat) : Array CpInfo := ⟨poolList es last⟩
def fileOf (pool : Array CpInfo) (this : Nat) (attrs : Array Attribute := #[]) (ms : Array MethodInfo := #[]) (fl : Nat := 33) (sup : Nat := 0) (ifs : Array Nat := #[]) (fds : Array FieldInfo := #[]) : ClassFile where
  minorVersion := 0
  majorVersion := 65
  constantPool := pool
  accessFlags := fl
  thisClass := this
  superClass := sup
  interfaces := ifs
  fields := fds
  methods := ms
  attributes := attrs
def plain (name : String) (sup : Option ClassId) : Class where
  name := name
  kind := .ordinary
  loader := none
  accessFlags := 33
  super := sup
  interfaces := #[]
  cf := none
  fields := #[]
  methods := #[]
  instanceTypes := #[]
  staticTypes := #[]
  resolved := #[]
  callSites := []
  init := .initialized
  statics := none
  mirror := none

def pool0 : Array CpInfo := pool [(5, u "<init>"), (0, u "()V"), (1, .class_ 10), (1, u "java/lang/Object")] 113

def k0m0 : Method := { name := "<init>", desc := "()V", sig := { parameters := [], returnType := none }, accessFlags := 1, code := none }
/-- java/lang/Object -/
def k0 : Class := { plain "java/lang/Object" none with
  accessFlags := 33
  interfaces := #[]
  cf := some (fileOf pool0 8 #[] #[{ accessFlags := 1, nameIndex := 5, descriptorIndex := 6, attributes := #[] }] 33 0 #[] #[])
  fields := #[]
  methods := #[k0m0]
  instanceTypes := #[]
  staticTypes := #[]
  resolved := Array.replicate 124 none
  statics := none }

def pool1 : Array CpInfo := pool [(2, .class_ 4), (1, u "java/lang/Object"), (0, u "<init>"), (0, u "()V"), (0, .integer 2147483647), (0, .methodref 9 10), (0, .class_ 11), (0, .nameAndType 12 13), (0, u "com/example/tourloom/tourloom/GeneticOperatorsShiftRoundPinLaw"), (0, u "pick"), (0, u "([II)[I"), (0, .methodref 15 16), (0, .class_ 17), (0, .nameAndType 18 19), (0, u "com/example/tourloom/tourloom/GeneticOperators"), (0, u "shiftRound"), (0, u "([I[I)V"), (0, .methodref 9 21), (0, .nameAndType 22 23), (0, u "risingKept"), (0, u "([I[II)Z"), (2, u "law"), (0, u "(IJJJ)Z")] 5

def k1m0 : Method := { name := "<init>", desc := "()V", sig := { parameters := [], returnType := none }, accessFlags := 2, code := none }
def k1c1 : Code := { maxStack := 6, maxLocals := 15, code := code, exceptionTable := #[], attributes := #[] }
def k1m1 : Method := { name := "law", desc := "(IJJJ)Z", sig := { parameters := [.int, .long, .long, .long], returnType := some .boolean }, accessFlags := 9, code := some k1c1 }
def k1c2 : Code := { maxStack := 5, maxLocals := 2, code := method_3_code, exceptionTable := #[], attributes := #[] }
def k1m2 : Method := { name := "pick", desc := "([II)[I", sig := { parameters := [(.array .int), .int], returnType := some (.array .int) }, accessFlags := 10, code := some k1c2 }
def k1c3 : Code := { maxStack := 3, maxLocals := 4, code := method_4_code, exceptionTable := #[], attributes := #[] }
def k1m3 : Method := { name := "risingKept", desc := "([I[II)Z", sig := { parameters := [(.array .int), (.array .int), .int], returnType := some .boolean }, accessFlags := 10, code := some k1c3 }
/-- com/example/tourloom/tourloom/GeneticOperatorsShiftRoundPinLaw -/
def k1 : Class := { plain "com/example/tourloom/tourloom/GeneticOperatorsShiftRoundPinLaw" (some 0) with
  accessFlags := 49
  interfaces := #[]
  cf := some (fileOf pool1 9 #[] #[{ accessFlags := 2, nameIndex := 5, descriptorIndex := 6, attributes := #[] }, { accessFlags := 9, nameIndex := 26, descriptorIndex := 27, attributes := #[] }, { accessFlags := 10, nameIndex := 12, descriptorIndex := 13, attributes := #[] }, { accessFlags := 10, nameIndex := 22, descriptorIndex := 23, attributes := #[] }] 49 2 #[] #[])
  fields := #[]
  methods := #[k1m0, k1m1, k1m2, k1m3]
  instanceTypes := #[]
  staticTypes := #[]
  resolved := Array.replicate 33 none
  statics := none }

def pool2 : Array CpInfo := pool [(2, .class_ 4), (1, u "java/lang/Object"), (0, u "<init>"), (0, u "()V"), (1, .class_ 10), (1, u "com/example/tourloom/tourloom/GeneticOperators"), (30, u "shiftRound"), (0, u "([I[I)V")] 25

def k2m0 : Method := { name := "<init>", desc := "()V", sig := { parameters := [], returnType := none }, accessFlags := 2, code := none }
def k2c1 : Code := { maxStack := 6, maxLocals := 4, code := prog_15_method_6_code, exceptionTable := #[], attributes := #[] }
def k2m1 : Method := { name := "shiftRound", desc := "([I[I)V", sig := { parameters := [(.array .int), (.array .int)], returnType := none }, accessFlags := 8, code := some k2c1 }
/-- com/example/tourloom/tourloom/GeneticOperators -/
def k2 : Class := { plain "com/example/tourloom/tourloom/GeneticOperators" (some 0) with
  accessFlags := 48
  interfaces := #[]
  cf := some (fileOf pool2 8 #[] #[{ accessFlags := 2, nameIndex := 5, descriptorIndex := 6, attributes := #[] }, { accessFlags := 8, nameIndex := 41, descriptorIndex := 42, attributes := #[] }] 48 2 #[] #[])
  fields := #[]
  methods := #[k2m0, k2m1]
  instanceTypes := #[]
  staticTypes := #[]
  resolved := Array.replicate 68 none
  statics := none }

def pool3 : Array CpInfo := pool [(1, u "java/lang/Cloneable"), (0, .class_ 1), (0, u "java/lang/Object"), (0, .class_ 3)] 3

/-- java/lang/Cloneable -/
def k3 : Class := { plain "java/lang/Cloneable" (some 0) with
  accessFlags := 1537
  interfaces := #[]
  cf := some (fileOf pool3 2 #[] #[] 1537 4 #[] #[])
  fields := #[]
  methods := #[]
  instanceTypes := #[]
  staticTypes := #[]
  resolved := Array.replicate 8 none
  statics := none }

def pool4 : Array CpInfo := pool [(1, u "java/io/Serializable"), (0, .class_ 1), (0, u "java/lang/Object"), (0, .class_ 3)] 3

/-- java/io/Serializable -/
def k4 : Class := { plain "java/io/Serializable" (some 0) with
  accessFlags := 1537
  interfaces := #[]
  cf := some (fileOf pool4 2 #[] #[] 1537 4 #[] #[])
  fields := #[]
  methods := #[]
  instanceTypes := #[]
  staticTypes := #[]
  resolved := Array.replicate 8 none
  statics := none }

/-- the primitive byte -/
def k5 : Class := { plain "byte" none with kind := .primitive 'B', accessFlags := 0x411 }
/-- [B -/
def k6 : Class := { plain "[B" (some 0) with kind := .array 5 .byte, interfaces := #[3, 4], accessFlags := 1041 }

/-- the primitive int -/
def k7 : Class := { plain "int" none with kind := .primitive 'I', accessFlags := 0x411 }
/-- [I -/
def k8 : Class := { plain "[I" (some 0) with kind := .array 7 .int, interfaces := #[3, 4], accessFlags := 1041 }

def heap : Heap := #[]
def classes : Array Class := #[k0, k1, k2, k3, k4, k5, k6, k7, k8]
def interned : List (Array UInt16 × Addr) := []
def slotsUsed : Nat := 0
def theMethod : MethodId := ⟨1, 1⟩
def args0 : Array Value := #[.int 5, .long 5, .long 5, .long 5]
def aboutOver (below : List Frame) : State where
  vm := { classes := classes, interned := interned.toArray }
  heap := heap
  slotsUsed := slotsUsed
  threads := #[{ frames := .invoking theMethod args0 :: below }]
def below0 : List Frame := [.native { method := ⟨0, 0⟩, args := #[] }]
def about1 : State := aboutOver below0
def p0 : Program := .bare "" "" ""
def e0 : Env := launch0.env 0 0 0
theorem w_frames : about1.frames = Frame.invoking theMethod args0 :: below0 := rfl
set_option maxRecDepth 65536 in
theorem w_args : argsFit about1.vm theMethod args0 = true := by decide +kernel
set_option maxRecDepth 65536 in
theorem w_heap : heapFits about1 = true := by decide +kernel
set_option maxRecDepth 65536 in
theorem w_runnable : about1.curStatus? = some .runnable := by decide +kernel
set_option maxRecDepth 65536 in
theorem w_alone : about1.alone = true := by decide +kernel
set_option maxRecDepth 65536 in
theorem w_named : about1.methodNamed? x = some theMethod := by decide +kernel
set_option maxRecDepth 65536 in
theorem w_hears : about1.hears theMethod below0 = true := by decide +kernel
set_option maxRecDepth 65536 in
theorem w_ripe : about1.ripe theMethod args0 below0 = true := by decide +kernel
theorem w_running : about1.status = .running := rfl
set_option maxRecDepth 65536 in
theorem w_room : about1.hasRoom e0.platform room_1 = true :=
  launch0.hasRoom_least _ room_1 (by decide +kernel) (by decide +kernel) (by decide +kernel) (by decide +kernel) (by decide +kernel) (by decide +kernel)
theorem allAtoms_all (ts : List Jvm.Cond) (a : Array Jvm.Value) (st : Jvm.State) : (allAtoms ts).before a st = ts.all (fun c => c.before a st) := by
  induction ts with
  | nil => rfl
  | cons c t ih =>
    show (Jvm.Cond.and c (allAtoms t)).before a st = _
    rw [Jvm.Cond.before_and, ih, List.all_cons]
def words1 : List Jvm.Cond := Jvm.Cond.code x code maxLocals ret :: tables_1
/-- a 'code' word, met by the world's own term for the bytes: nothing is compared byte by byte -/
theorem code_word {y : MethodName} {bytes : ByteArray} {mx : Nat} {rt : Option FieldType} {a : Array Value} {s : State} {m : MethodId} {meth : Method} {c : Code} (h1 : s.methodNamed? y = some m) (h2 : s.vm.method? m = some meth) (h3 : meth.code = some c) (h4 : c.code = bytes)
    (h5 : (c.maxLocals == mx && c.exceptionTable.isEmpty && decide (c.maxStack ≤ mostOperands) && decide (meth.sig.returnType = rt) && !meth.locks && decide (parseMethodDescriptor y.desc = some meth.sig)) = true) : (Jvm.Cond.code y bytes mx rt).before a s = true := by
  simp only [Bool.and_eq_true, beq_iff_eq, Bool.not_eq_true', decide_eq_true_eq] at h5
  obtain ⟨⟨⟨⟨⟨g1, g2⟩, g3⟩, g4⟩, g5⟩, g6⟩ := h5
  simp [Cond.before, Cond.holds, Cond.value, h1, h2, h3, h4, g1, g2, g3, g4, g5, g6]
def isCode : Jvm.Cond → Bool
  | .code _ _ _ _ => true
  | _ => false
theorem all_split {L : List Jvm.Cond} {P : Jvm.Cond → Bool} (h1 : L.all (fun c => isCode c || P c) = true) (h2 : ∀ c ∈ L.filter isCode, P c = true) : L.all P = true := by
  refine List.all_eq_true.mpr fun c hc => ?_
  have h := List.all_eq_true.mp h1 c hc
  rcases Bool.eq_false_or_eq_true (isCode c) with hi | hi
  · exact h2 c (List.mem_filter.mpr ⟨hc, hi⟩)
  · simpa [hi] using h
set_option maxRecDepth 65536 in
theorem w_c0 : (Jvm.Cond.code x code maxLocals ret).before args0 about1 = true := code_word (m := ⟨1, 1⟩) (meth := k1m1) (c := k1c1) (by decide +kernel) rfl rfl rfl (by decide +kernel)
set_option maxRecDepth 65536 in
theorem w_c1 : (Jvm.Cond.code ({ cls := "com/example/tourloom/tourloom/GeneticOperatorsShiftRoundPinLaw", name := "pick", desc := "([II)[I" } : Jvm.MethodName) method_3_code (2 : Nat) (Option.some (Jvm.ClassFile.FieldType.array Jvm.ClassFile.FieldType.int))).before args0 about1 = true := code_word (m := ⟨1, 2⟩) (meth := k1m2) (c := k1c2) (by decide +kernel) rfl rfl rfl (by decide +kernel)
set_option maxRecDepth 65536 in
theorem w_c2 : (Jvm.Cond.code ({ cls := "com/example/tourloom/tourloom/GeneticOperators", name := "shiftRound", desc := "([I[I)V" } : Jvm.MethodName) prog_15_method_6_code (4 : Nat) (Option.none : Option Jvm.ClassFile.FieldType)).before args0 about1 = true := code_word (m := ⟨2, 1⟩) (meth := k2m1) (c := k2c1) (by decide +kernel) rfl rfl rfl (by decide +kernel)
set_option maxRecDepth 65536 in
theorem w_c3 : (Jvm.Cond.code ({ cls := "com/example/tourloom/tourloom/GeneticOperatorsShiftRoundPinLaw", name := "risingKept", desc := "([I[II)Z" } : Jvm.MethodName) method_4_code (4 : Nat) (Option.some Jvm.ClassFile.FieldType.boolean)).before args0 about1 = true := code_word (m := ⟨1, 3⟩) (meth := k1m3) (c := k1c3) (by decide +kernel) rfl rfl rfl (by decide +kernel)
def codes1 : List Jvm.Cond := [Jvm.Cond.code x code maxLocals ret, Jvm.Cond.code ({ cls := "com/example/tourloom/tourloom/GeneticOperatorsShiftRoundPinLaw", name := "pick", desc := "([II)[I" } : Jvm.MethodName) method_3_code (2 : Nat) (Option.some (Jvm.ClassFile.FieldType.array Jvm.ClassFile.FieldType.int)), Jvm.Cond.code ({ cls := "com/example/tourloom/tourloom/GeneticOperators", name := "shiftRound", desc := "([I[I)V" } : Jvm.MethodName) prog_15_method_6_code (4 : Nat) (Option.none : Option Jvm.ClassFile.FieldType), Jvm.Cond.code ({ cls := "com/example/tourloom/tourloom/GeneticOperatorsShiftRoundPinLaw", name := "risingKept", desc := "([I[II)Z" } : Jvm.MethodName) method_4_code (4 : Nat) (Option.some Jvm.ClassFile.FieldType.boolean)]
set_option maxRecDepth 65536 in
theorem codes_eq : words1.filter isCode = codes1 := rfl
theorem w_codes : ∀ c ∈ words1.filter isCode, c.before args0 about1 = true := by
  rw [codes_eq]
  intro c hc
  simp only [codes1, List.mem_cons, List.not_mem_nil, or_false] at hc
  rcases hc with rfl | rfl | rfl | rfl
  · exact w_c0
  · exact w_c1
  · exact w_c2
  · exact w_c3
set_option maxRecDepth 65536 in
theorem w_t1 : words1.all (fun c => isCode c || c.before args0 about1) = true := by decide +kernel
theorem w_tables : (allAtoms (Jvm.Cond.code x code maxLocals ret :: tables_1)).before args0 about1 = true := by
  rw [allAtoms_all]
  show words1.all (fun c => c.before args0 about1) = true
  refine all_split ?_ w_codes
  rw [w_t1]
set_option maxRecDepth 65536 in
theorem w_case : (Jvm.Cond.and given_1 narrow_1).before args0 about1 = true := by decide +kernel
theorem w_applies : (headSpec (Jvm.Cond.code x code maxLocals ret :: tables_1) room_1).applies x e0.platform about1 = true :=
  (Spec.applies_iff w_frames).mpr ⟨w_running, w_runnable, w_alone, w_named, w_hears, w_ripe, w_room, w_tables⟩
theorem atStart : AtStart classFile x code maxLocals ret World_1 tables_1 room_1 Calls_1 rest_1 Pre_1 launch0 p0 e0 about1 theMethod args0 below0 :=
  ⟨lists_1, trivial, launch0.admits_env _ _ _, launch0.least_env, fairChoices_fair.cas, fairChoices_fair.clock, w_frames, w_args, w_heap, w_applies, trivial, trivial, w_case⟩
end start1
theorem witness_1 : WitnessClaimed_1 := ⟨start1.p0, start1.e0, start1.about1, start1.theMethod, start1.args0, start1.below0, start1.atStart⟩
end Jvm.Pilot.@@N@@
