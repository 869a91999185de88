import JvmDerived
import JvmDerived.Pilot.@@N@@Statement
import JvmDerived.Pilot.@@N@@Code
set_option linter.unusedVariables false
set_option linter.unusedSimpArgs false
namespace Jvm.Pilot.@@N@@
open Jvm Jvm.ClassFile Sem Op Lib Jvm.Free Jvm.Stand Jvm.LawKit Jvm.RoadKit Bundle Jvm.Pilot.@@N@@.Jvm.D
section OwnKit
variable {p : Program} {l : Launch} {e : Env} {R : Room} {s : State} {m : MethodId} {args : Array Value} {below : List Frame} {meth : Method} {c : Code} {T : State} {locs : List Loc} {cells slots kc ks : Nat} {Q : Option Value → Heap → List Loc → Prop} {pc q : Nat} {Ls L' : Array Slot} {st : List Value}
def own_Go (p : Program) (e : Env) (below : List Frame) (s : State) (kc ks : Nat) (Q : Option Value → Heap → List Loc → Prop) (U : State) : Prop :=
  ∃ s₂ o, Steps p.tables e below U s₂ ∧ s₂.status = .running ∧ Ended s₂ below o ∧ ∃ v L, o = .returned v ∧ Q v s₂.heap L ∧ FrameEnd s o s₂ L kc ks
theorem own_via {U V : State} (h : ∀ t, Steps p.tables e below V t → Steps p.tables e below U t) (K : own_Go p e below s kc ks Q V) : own_Go p e below s kc ks Q U := by
  obtain ⟨a, b, h1, r⟩ := K; exact ⟨a, b, h _ h1, r⟩
def own_P (w : Value) (h : Heap) (v : Option Value) (h' : Heap) (L : List Loc) : Prop := v = some w ∧ h' = h ∧ L = []
theorem own_iadd (X : Stand p l e R s m args below meth c T locs cells slots) (hx : p.tables.exec = Jvm.exec) {x y : Int32} (hd : decode c.code pc = .ok (.iadd, 1)) (hq : pc + 1 = q)  (K : own_Go p e below s kc ks Q (T.setTop (mkF m q Ls (.int (x + y) :: st)))) : own_Go p e below s kc ks Q (T.setTop (mkF m pc Ls (.int y :: .int x :: st))) := by
  subst hq; exact own_via (fun t => XS.iadd X.here hx rfl hd rfl) K
theorem own_isub (X : Stand p l e R s m args below meth c T locs cells slots) (hx : p.tables.exec = Jvm.exec) {x y : Int32} (hd : decode c.code pc = .ok (.isub, 1)) (hq : pc + 1 = q)  (K : own_Go p e below s kc ks Q (T.setTop (mkF m q Ls (.int (x - y) :: st)))) : own_Go p e below s kc ks Q (T.setTop (mkF m pc Ls (.int y :: .int x :: st))) := by
  subst hq; exact own_via (fun t => XS.isub X.here hx rfl hd rfl) K
theorem own_imul (X : Stand p l e R s m args below meth c T locs cells slots) (hx : p.tables.exec = Jvm.exec) {x y : Int32} (hd : decode c.code pc = .ok (.imul, 1)) (hq : pc + 1 = q)  (K : own_Go p e below s kc ks Q (T.setTop (mkF m q Ls (.int (x * y) :: st)))) : own_Go p e below s kc ks Q (T.setTop (mkF m pc Ls (.int y :: .int x :: st))) := by
  subst hq; exact own_via (fun t => XS.imul X.here hx rfl hd rfl) K
theorem own_iand (X : Stand p l e R s m args below meth c T locs cells slots) (hx : p.tables.exec = Jvm.exec) {x y : Int32} (hd : decode c.code pc = .ok (.iand, 1)) (hq : pc + 1 = q)  (K : own_Go p e below s kc ks Q (T.setTop (mkF m q Ls (.int (x &&& y) :: st)))) : own_Go p e below s kc ks Q (T.setTop (mkF m pc Ls (.int y :: .int x :: st))) := by
  subst hq; exact own_via (fun t => XS.iand X.here hx rfl hd rfl) K
theorem own_ixor (X : Stand p l e R s m args below meth c T locs cells slots) (hx : p.tables.exec = Jvm.exec) {x y : Int32} (hd : decode c.code pc = .ok (.ixor, 1)) (hq : pc + 1 = q)  (K : own_Go p e below s kc ks Q (T.setTop (mkF m q Ls (.int (x ^^^ y) :: st)))) : own_Go p e below s kc ks Q (T.setTop (mkF m pc Ls (.int y :: .int x :: st))) := by
  subst hq; exact own_via (fun t => XT.ixor X.here hx rfl hd rfl) K
theorem own_ior (X : Stand p l e R s m args below meth c T locs cells slots) (hx : p.tables.exec = Jvm.exec) {x y : Int32} (hd : decode c.code pc = .ok (.ior, 1)) (hq : pc + 1 = q)  (K : own_Go p e below s kc ks Q (T.setTop (mkF m q Ls (.int (x ||| y) :: st)))) : own_Go p e below s kc ks Q (T.setTop (mkF m pc Ls (.int y :: .int x :: st))) := by
  subst hq; exact own_via (fun t => XT.ior X.here hx rfl hd rfl) K
theorem own_ishl (X : Stand p l e R s m args below meth c T locs cells slots) (hx : p.tables.exec = Jvm.exec) {x y : Int32} (hd : decode c.code pc = .ok (.ishl, 1)) (hq : pc + 1 = q)  (K : own_Go p e below s kc ks Q (T.setTop (mkF m q Ls (.int (x <<< (y &&& 31)) :: st)))) : own_Go p e below s kc ks Q (T.setTop (mkF m pc Ls (.int y :: .int x :: st))) := by
  subst hq; exact own_via (fun t => XT.ishl X.here hx rfl hd rfl) K
theorem own_ishr (X : Stand p l e R s m args below meth c T locs cells slots) (hx : p.tables.exec = Jvm.exec) {x y : Int32} (hd : decode c.code pc = .ok (.ishr, 1)) (hq : pc + 1 = q)  (K : own_Go p e below s kc ks Q (T.setTop (mkF m q Ls (.int (x >>> (y &&& 31)) :: st)))) : own_Go p e below s kc ks Q (T.setTop (mkF m pc Ls (.int y :: .int x :: st))) := by
  subst hq; exact own_via (fun t => XT.ishr X.here hx rfl hd rfl) K
theorem own_iushr (X : Stand p l e R s m args below meth c T locs cells slots) (hx : p.tables.exec = Jvm.exec) {x y : Int32} (hd : decode c.code pc = .ok (.iushr, 1)) (hq : pc + 1 = q)  (K : own_Go p e below s kc ks Q (T.setTop (mkF m q Ls (.int (XT.ushr x y) :: st)))) : own_Go p e below s kc ks Q (T.setTop (mkF m pc Ls (.int y :: .int x :: st))) := by
  subst hq; exact own_via (fun t => XT.iushr X.here hx rfl hd rfl) K
theorem own_idiv (X : Stand p l e R s m args below meth c T locs cells slots) (hx : p.tables.exec = Jvm.exec) {x y : Int32} (hd : decode c.code pc = .ok (.idiv, 1)) (hq : pc + 1 = q) (hy : y ≠ 0) (K : own_Go p e below s kc ks Q (T.setTop (mkF m q Ls (.int (x / y) :: st)))) : own_Go p e below s kc ks Q (T.setTop (mkF m pc Ls (.int y :: .int x :: st))) := by
  subst hq; exact own_via (fun t => XS.idiv X.here hx rfl hd rfl hy) K
theorem own_irem (X : Stand p l e R s m args below meth c T locs cells slots) (hx : p.tables.exec = Jvm.exec) {x y : Int32} (hd : decode c.code pc = .ok (.irem, 1)) (hq : pc + 1 = q) (hy : y ≠ 0) (K : own_Go p e below s kc ks Q (T.setTop (mkF m q Ls (.int (x % y) :: st)))) : own_Go p e below s kc ks Q (T.setTop (mkF m pc Ls (.int y :: .int x :: st))) := by
  subst hq; exact own_via (fun t => iremM X hx rfl hd rfl hy) K
theorem own_ineg (X : Stand p l e R s m args below meth c T locs cells slots) (hx : p.tables.exec = Jvm.exec) {x : Int32} (hd : decode c.code pc = .ok (.ineg, 1)) (hq : pc + 1 = q)  (K : own_Go p e below s kc ks Q (T.setTop (mkF m q Ls (.int (-x) :: st)))) : own_Go p e below s kc ks Q (T.setTop (mkF m pc Ls (.int x :: st))) := by
  subst hq; exact own_via (fun t => XS.ineg X.here hx rfl hd rfl) K
theorem own_ladd (X : Stand p l e R s m args below meth c T locs cells slots) (hx : p.tables.exec = Jvm.exec) {x y : Int64} (hd : decode c.code pc = .ok (.ladd, 1)) (hq : pc + 1 = q)  (K : own_Go p e below s kc ks Q (T.setTop (mkF m q Ls (.long (x + y) :: st)))) : own_Go p e below s kc ks Q (T.setTop (mkF m pc Ls (.long y :: .long x :: st))) := by
  subst hq; exact own_via (fun t => XT.ladd X.here hx rfl hd rfl) K
theorem own_lsub (X : Stand p l e R s m args below meth c T locs cells slots) (hx : p.tables.exec = Jvm.exec) {x y : Int64} (hd : decode c.code pc = .ok (.lsub, 1)) (hq : pc + 1 = q)  (K : own_Go p e below s kc ks Q (T.setTop (mkF m q Ls (.long (x - y) :: st)))) : own_Go p e below s kc ks Q (T.setTop (mkF m pc Ls (.long y :: .long x :: st))) := by
  subst hq; exact own_via (fun t => XT.lsub X.here hx rfl hd rfl) K
theorem own_lmul (X : Stand p l e R s m args below meth c T locs cells slots) (hx : p.tables.exec = Jvm.exec) {x y : Int64} (hd : decode c.code pc = .ok (.lmul, 1)) (hq : pc + 1 = q)  (K : own_Go p e below s kc ks Q (T.setTop (mkF m q Ls (.long (x * y) :: st)))) : own_Go p e below s kc ks Q (T.setTop (mkF m pc Ls (.long y :: .long x :: st))) := by
  subst hq; exact own_via (fun t => XT.lmul X.here hx rfl hd rfl) K
theorem own_land (X : Stand p l e R s m args below meth c T locs cells slots) (hx : p.tables.exec = Jvm.exec) {x y : Int64} (hd : decode c.code pc = .ok (.land, 1)) (hq : pc + 1 = q)  (K : own_Go p e below s kc ks Q (T.setTop (mkF m q Ls (.long (x &&& y) :: st)))) : own_Go p e below s kc ks Q (T.setTop (mkF m pc Ls (.long y :: .long x :: st))) := by
  subst hq; exact own_via (fun t => XT.land X.here hx rfl hd rfl) K
theorem own_lor (X : Stand p l e R s m args below meth c T locs cells slots) (hx : p.tables.exec = Jvm.exec) {x y : Int64} (hd : decode c.code pc = .ok (.lor, 1)) (hq : pc + 1 = q)  (K : own_Go p e below s kc ks Q (T.setTop (mkF m q Ls (.long (x ||| y) :: st)))) : own_Go p e below s kc ks Q (T.setTop (mkF m pc Ls (.long y :: .long x :: st))) := by
  subst hq; exact own_via (fun t => XT.lor X.here hx rfl hd rfl) K
theorem own_lxor (X : Stand p l e R s m args below meth c T locs cells slots) (hx : p.tables.exec = Jvm.exec) {x y : Int64} (hd : decode c.code pc = .ok (.lxor, 1)) (hq : pc + 1 = q)  (K : own_Go p e below s kc ks Q (T.setTop (mkF m q Ls (.long (x ^^^ y) :: st)))) : own_Go p e below s kc ks Q (T.setTop (mkF m pc Ls (.long y :: .long x :: st))) := by
  subst hq; exact own_via (fun t => XT.lxor X.here hx rfl hd rfl) K
theorem own_ldiv (X : Stand p l e R s m args below meth c T locs cells slots) (hx : p.tables.exec = Jvm.exec) {x y : Int64} (hd : decode c.code pc = .ok (.ldiv, 1)) (hq : pc + 1 = q) (hy : y ≠ 0) (K : own_Go p e below s kc ks Q (T.setTop (mkF m q Ls (.long (x / y) :: st)))) : own_Go p e below s kc ks Q (T.setTop (mkF m pc Ls (.long y :: .long x :: st))) := by
  subst hq; exact own_via (fun t => XT.ldiv X.here hx rfl hd rfl hy) K
theorem own_lshl (X : Stand p l e R s m args below meth c T locs cells slots) (hx : p.tables.exec = Jvm.exec) {x : Int64} {y : Int32} (hd : decode c.code pc = .ok (.lshl, 1)) (hq : pc + 1 = q)  (K : own_Go p e below s kc ks Q (T.setTop (mkF m q Ls (.long (x <<< (y.toInt64 &&& 63)) :: st)))) : own_Go p e below s kc ks Q (T.setTop (mkF m pc Ls (.int y :: .long x :: st))) := by
  subst hq; exact own_via (fun t => XT.lshl X.here hx rfl hd rfl) K
theorem own_lshr (X : Stand p l e R s m args below meth c T locs cells slots) (hx : p.tables.exec = Jvm.exec) {x : Int64} {y : Int32} (hd : decode c.code pc = .ok (.lshr, 1)) (hq : pc + 1 = q)  (K : own_Go p e below s kc ks Q (T.setTop (mkF m q Ls (.long (x >>> (y.toInt64 &&& 63)) :: st)))) : own_Go p e below s kc ks Q (T.setTop (mkF m pc Ls (.int y :: .long x :: st))) := by
  subst hq; exact own_via (fun t => XT.lshr X.here hx rfl hd rfl) K
theorem own_lushr (X : Stand p l e R s m args below meth c T locs cells slots) (hx : p.tables.exec = Jvm.exec) {x : Int64} {y : Int32} (hd : decode c.code pc = .ok (.lushr, 1)) (hq : pc + 1 = q)  (K : own_Go p e below s kc ks Q (T.setTop (mkF m q Ls (.long (XT.ushrL x y) :: st)))) : own_Go p e below s kc ks Q (T.setTop (mkF m pc Ls (.int y :: .long x :: st))) := by
  subst hq; exact own_via (fun t => XT.lushr X.here hx rfl hd rfl) K
theorem own_i2l (X : Stand p l e R s m args below meth c T locs cells slots) (hx : p.tables.exec = Jvm.exec) {x : Int32} (hd : decode c.code pc = .ok (.i2l, 1)) (hq : pc + 1 = q)  (K : own_Go p e below s kc ks Q (T.setTop (mkF m q Ls (.long x.toInt64 :: st)))) : own_Go p e below s kc ks Q (T.setTop (mkF m pc Ls (.int x :: st))) := by
  subst hq; exact own_via (fun t => XT.i2l X.here hx rfl hd rfl) K
theorem own_l2i (X : Stand p l e R s m args below meth c T locs cells slots) (hx : p.tables.exec = Jvm.exec) {x : Int64} (hd : decode c.code pc = .ok (.l2i, 1)) (hq : pc + 1 = q)  (K : own_Go p e below s kc ks Q (T.setTop (mkF m q Ls (.int x.toInt32 :: st)))) : own_Go p e below s kc ks Q (T.setTop (mkF m pc Ls (.long x :: st))) := by
  subst hq; exact own_via (fun t => XT.l2i X.here hx rfl hd rfl) K
theorem own_i2c (X : Stand p l e R s m args below meth c T locs cells slots) (hx : p.tables.exec = Jvm.exec) {x : Int32} (hd : decode c.code pc = .ok (.i2c, 1)) (hq : pc + 1 = q)  (K : own_Go p e below s kc ks Q (T.setTop (mkF m q Ls (.int x.toUInt32.toUInt16.toUInt32.toInt32 :: st)))) : own_Go p e below s kc ks Q (T.setTop (mkF m pc Ls (.int x :: st))) := by
  subst hq; exact own_via (fun t => XT.i2c X.here hx rfl hd rfl) K
theorem own_i2b (X : Stand p l e R s m args below meth c T locs cells slots) (hx : p.tables.exec = Jvm.exec) {x : Int32} (hd : decode c.code pc = .ok (.i2b, 1)) (hq : pc + 1 = q)  (K : own_Go p e below s kc ks Q (T.setTop (mkF m q Ls (.int x.toInt8.toInt32 :: st)))) : own_Go p e below s kc ks Q (T.setTop (mkF m pc Ls (.int x :: st))) := by
  subst hq; exact own_via (fun t => XT.i2b X.here hx rfl hd rfl) K
theorem own_lcmp (X : Stand p l e R s m args below meth c T locs cells slots) (hx : p.tables.exec = Jvm.exec) {x y : Int64} (hd : decode c.code pc = .ok (.lcmp, 1)) (hq : pc + 1 = q)  (K : own_Go p e below s kc ks Q (T.setTop (mkF m q Ls (.int (XT.cmpL x y) :: st)))) : own_Go p e below s kc ks Q (T.setTop (mkF m pc Ls (.long y :: .long x :: st))) := by
  subst hq; exact own_via (fun t => XT.lcmp X.here hx rfl hd rfl) K
theorem own_iconst (X : Stand p l e R s m args below meth c T locs cells slots) (hx : p.tables.exec = Jvm.exec) {i : Int} (v : Int32) (hd : decode c.code pc = .ok (.iconst i, 1)) (hq : pc + 1 = q) (hv : Int32.ofInt i = v) (K : own_Go p e below s kc ks Q (T.setTop (mkF m q Ls (.int v :: st)))) : own_Go p e below s kc ks Q (T.setTop (mkF m pc Ls st)) := by
  subst hq; exact own_via (fun t => XT.iconstV (v := v) X.here hx rfl hd hv) K
theorem own_bipush (X : Stand p l e R s m args below meth c T locs cells slots) (hx : p.tables.exec = Jvm.exec) {i : Int} (v : Int32) (hd : decode c.code pc = .ok (.bipush i, 2)) (hq : pc + 2 = q) (hv : (Int8.ofInt i).toInt32 = v) (K : own_Go p e below s kc ks Q (T.setTop (mkF m q Ls (.int v :: st)))) : own_Go p e below s kc ks Q (T.setTop (mkF m pc Ls st)) := by
  subst hq; exact own_via (fun t => XT.bipushV (v := v) X.here hx rfl hd hv) K
theorem own_sipush (X : Stand p l e R s m args below meth c T locs cells slots) (hx : p.tables.exec = Jvm.exec) {i : Int} (v : Int32) (hd : decode c.code pc = .ok (.sipush i, 3)) (hq : pc + 3 = q) (hv : (Int16.ofInt i).toInt32 = v) (K : own_Go p e below s kc ks Q (T.setTop (mkF m q Ls (.int v :: st)))) : own_Go p e below s kc ks Q (T.setTop (mkF m pc Ls st)) := by
  subst hq; exact own_via (fun t => XT.sipushV (v := v) X.here hx rfl hd hv) K
theorem own_lconst (X : Stand p l e R s m args below meth c T locs cells slots) (hx : p.tables.exec = Jvm.exec) {i : Fin 2} (v : Int64) (hd : decode c.code pc = .ok (.lconst i, 1)) (hq : pc + 1 = q) (hv : Int64.ofNat i = v) (K : own_Go p e below s kc ks Q (T.setTop (mkF m q Ls (.long v :: st)))) : own_Go p e below s kc ks Q (T.setTop (mkF m pc Ls st)) := by
  subst hq; exact own_via (fun t => XT.lconstV (v := v) X.here hx rfl hd hv) K
theorem own_aconstNull (X : Stand p l e R s m args below meth c T locs cells slots) (hx : p.tables.exec = Jvm.exec)  (hd : decode c.code pc = .ok (.aconst_null, 1)) (hq : pc + 1 = q)  (K : own_Go p e below s kc ks Q (T.setTop (mkF m q Ls (.null :: st)))) : own_Go p e below s kc ks Q (T.setTop (mkF m pc Ls st)) := by
  subst hq; exact own_via (fun t => XS.aconstNull X.here hx rfl hd ) K
theorem own_iloadN (X : Stand p l e R s m args below meth c T locs cells slots) (hx : p.tables.exec = Jvm.exec) {k : Fin 4} {v : Int32} (hd : decode c.code pc = .ok (.iload_n k, 1)) (hq : pc + 1 = q) (hl : Ls[k.val]? = some (.val (.int v))) (K : own_Go p e below s kc ks Q (T.setTop (mkF m q Ls (.int v :: st)))) : own_Go p e below s kc ks Q (T.setTop (mkF m pc Ls st)) := by
  subst hq; exact own_via (fun t => XS.iloadN X.here hx rfl hd hl) K
theorem own_iload (X : Stand p l e R s m args below meth c T locs cells slots) (hx : p.tables.exec = Jvm.exec) {k : Nat} {v : Int32} (hd : decode c.code pc = .ok (.iload k, 2)) (hq : pc + 2 = q) (hl : Ls[k]? = some (.val (.int v))) (K : own_Go p e below s kc ks Q (T.setTop (mkF m q Ls (.int v :: st)))) : own_Go p e below s kc ks Q (T.setTop (mkF m pc Ls st)) := by
  subst hq; exact own_via (fun t => XS.iload X.here hx rfl hd hl) K
theorem own_lloadN (X : Stand p l e R s m args below meth c T locs cells slots) (hx : p.tables.exec = Jvm.exec) {k : Fin 4} {v : Int64} (hd : decode c.code pc = .ok (.lload_n k, 1)) (hq : pc + 1 = q) (hl : Ls[k.val]? = some (.val (.long v))) (K : own_Go p e below s kc ks Q (T.setTop (mkF m q Ls (.long v :: st)))) : own_Go p e below s kc ks Q (T.setTop (mkF m pc Ls st)) := by
  subst hq; exact own_via (fun t => XT.lloadN X.here hx rfl hd hl) K
theorem own_lload (X : Stand p l e R s m args below meth c T locs cells slots) (hx : p.tables.exec = Jvm.exec) {k : Nat} {v : Int64} (hd : decode c.code pc = .ok (.lload k, 2)) (hq : pc + 2 = q) (hl : Ls[k]? = some (.val (.long v))) (K : own_Go p e below s kc ks Q (T.setTop (mkF m q Ls (.long v :: st)))) : own_Go p e below s kc ks Q (T.setTop (mkF m pc Ls st)) := by
  subst hq; exact own_via (fun t => XT.lload X.here hx rfl hd hl) K
theorem own_aloadN (X : Stand p l e R s m args below meth c T locs cells slots) (hx : p.tables.exec = Jvm.exec) {k : Fin 4} {v : Value} (hd : decode c.code pc = .ok (.aload_n k, 1)) (hq : pc + 1 = q) (hl : Ls[k.val]? = some (.val v)) (hv : v.isRef = true) (K : own_Go p e below s kc ks Q (T.setTop (mkF m q Ls (v :: st)))) : own_Go p e below s kc ks Q (T.setTop (mkF m pc Ls st)) := by
  subst hq; exact own_via (fun t => XS.aloadN X.here hx rfl hd hl hv) K
theorem own_aload (X : Stand p l e R s m args below meth c T locs cells slots) (hx : p.tables.exec = Jvm.exec) {k : Nat} {v : Value} (hd : decode c.code pc = .ok (.aload k, 2)) (hq : pc + 2 = q) (hl : Ls[k]? = some (.val v)) (hv : v.isRef = true) (K : own_Go p e below s kc ks Q (T.setTop (mkF m q Ls (v :: st)))) : own_Go p e below s kc ks Q (T.setTop (mkF m pc Ls st)) := by
  subst hq; exact own_via (fun t => XS.aload X.here hx rfl hd hl hv) K
theorem own_istoreN (X : Stand p l e R s m args below meth c T locs cells slots) (hx : p.tables.exec = Jvm.exec) {k : Fin 4} {v : Int32} (hd : decode c.code pc = .ok (.istore_n k, 1)) (hq : pc + 1 = q) (hl : storeLocals Ls k.val (.int v) = some L') (K : own_Go p e below s kc ks Q (T.setTop (mkF m q L' st))) : own_Go p e below s kc ks Q (T.setTop (mkF m pc Ls (.int v :: st))) := by
  subst hq; exact own_via (fun t => XS.istoreN X.here hx rfl hd rfl hl) K
theorem own_istore (X : Stand p l e R s m args below meth c T locs cells slots) (hx : p.tables.exec = Jvm.exec) {k : Nat} {v : Int32} (hd : decode c.code pc = .ok (.istore k, 2)) (hq : pc + 2 = q) (hl : storeLocals Ls k (.int v) = some L') (K : own_Go p e below s kc ks Q (T.setTop (mkF m q L' st))) : own_Go p e below s kc ks Q (T.setTop (mkF m pc Ls (.int v :: st))) := by
  subst hq; exact own_via (fun t => XS.istore X.here hx rfl hd rfl hl) K
theorem own_lstoreN (X : Stand p l e R s m args below meth c T locs cells slots) (hx : p.tables.exec = Jvm.exec) {k : Fin 4} {v : Int64} (hd : decode c.code pc = .ok (.lstore_n k, 1)) (hq : pc + 1 = q) (hl : storeLocals Ls k.val (.long v) = some L') (K : own_Go p e below s kc ks Q (T.setTop (mkF m q L' st))) : own_Go p e below s kc ks Q (T.setTop (mkF m pc Ls (.long v :: st))) := by
  subst hq; exact own_via (fun t => XT.lstoreN X.here hx rfl hd rfl hl) K
theorem own_lstore (X : Stand p l e R s m args below meth c T locs cells slots) (hx : p.tables.exec = Jvm.exec) {k : Nat} {v : Int64} (hd : decode c.code pc = .ok (.lstore k, 2)) (hq : pc + 2 = q) (hl : storeLocals Ls k (.long v) = some L') (K : own_Go p e below s kc ks Q (T.setTop (mkF m q L' st))) : own_Go p e below s kc ks Q (T.setTop (mkF m pc Ls (.long v :: st))) := by
  subst hq; exact own_via (fun t => XT.lstore X.here hx rfl hd rfl hl) K
theorem own_astoreN (X : Stand p l e R s m args below meth c T locs cells slots) (hx : p.tables.exec = Jvm.exec) {k : Fin 4} {v : Value} (hd : decode c.code pc = .ok (.astore_n k, 1)) (hq : pc + 1 = q) (hv : v.isRef = true) (hl : storeLocals Ls k.val v = some L') (K : own_Go p e below s kc ks Q (T.setTop (mkF m q L' st))) : own_Go p e below s kc ks Q (T.setTop (mkF m pc Ls (v :: st))) := by
  subst hq; exact own_via (fun t => XS.astoreN X.here hx rfl hd rfl hv hl) K
theorem own_astore (X : Stand p l e R s m args below meth c T locs cells slots) (hx : p.tables.exec = Jvm.exec) {k : Nat} {v : Value} (hd : decode c.code pc = .ok (.astore k, 2)) (hq : pc + 2 = q) (hv : v.isRef = true) (hl : storeLocals Ls k v = some L') (K : own_Go p e below s kc ks Q (T.setTop (mkF m q L' st))) : own_Go p e below s kc ks Q (T.setTop (mkF m pc Ls (v :: st))) := by
  subst hq; exact own_via (fun t => XS.astore X.here hx rfl hd rfl hv hl) K
theorem own_iinc (X : Stand p l e R s m args below meth c T locs cells slots) (hx : p.tables.exec = Jvm.exec) {k : Nat} {i : Int} {x : Int32} (v : Int32) (hd : decode c.code pc = .ok (.iinc k i, 3)) (hq : pc + 3 = q) (hv : Int32.ofInt i = v) (hl : Ls[k]? = some (.val (.int x))) (hl' : storeLocals Ls k (.int (x + v)) = some L') (K : own_Go p e below s kc ks Q (T.setTop (mkF m q L' st))) : own_Go p e below s kc ks Q (T.setTop (mkF m pc Ls st)) := by
  subst hq; exact own_via (fun t => XT.iincV (v := v) X.here hx rfl hd hv hl hl') K
theorem own_dup (X : Stand p l e R s m args below meth c T locs cells slots) (hx : p.tables.exec = Jvm.exec) {v : Value} (hd : decode c.code pc = .ok (.dup, 1)) (hq : pc + 1 = q) (hc : v.category = 1) (K : own_Go p e below s kc ks Q (T.setTop (mkF m q Ls (v :: v :: st)))) : own_Go p e below s kc ks Q (T.setTop (mkF m pc Ls (v :: st))) := by
  subst hq; exact own_via (fun t => XS.dup X.here hx rfl hd rfl hc) K
theorem own_pop (X : Stand p l e R s m args below meth c T locs cells slots) (hx : p.tables.exec = Jvm.exec) {v : Value} (hd : decode c.code pc = .ok (.pop, 1)) (hq : pc + 1 = q) (hc : v.category = 1) (K : own_Go p e below s kc ks Q (T.setTop (mkF m q Ls st))) : own_Go p e below s kc ks Q (T.setTop (mkF m pc Ls (v :: st))) := by
  subst hq; exact own_via (fun t => XT.pop X.here hx rfl hd rfl hc) K
theorem own_dupX1 (X : Stand p l e R s m args below meth c T locs cells slots) (hx : p.tables.exec = Jvm.exec) {v w : Value} (hd : decode c.code pc = .ok (.dup_x1, 1)) (hq : pc + 1 = q) (hc : v.category = 1) (hc' : w.category = 1) (K : own_Go p e below s kc ks Q (T.setTop (mkF m q Ls (v :: w :: v :: st)))) : own_Go p e below s kc ks Q (T.setTop (mkF m pc Ls (v :: w :: st))) := by
  subst hq; exact own_via (fun t => XT.dupX1 X.here hx rfl hd rfl hc hc') K
theorem own_dup2 (X : Stand p l e R s m args below meth c T locs cells slots) (hx : p.tables.exec = Jvm.exec) {v w : Value} (hd : decode c.code pc = .ok (.dup2, 1)) (hq : pc + 1 = q) (hc : v.category = 1) (hc' : w.category = 1) (K : own_Go p e below s kc ks Q (T.setTop (mkF m q Ls (v :: w :: v :: w :: st)))) : own_Go p e below s kc ks Q (T.setTop (mkF m pc Ls (v :: w :: st))) := by
  subst hq; exact own_via (fun t => XT.dup2 X.here hx rfl hd rfl hc hc') K
theorem own_goto (X : Stand p l e R s m args below meth c T locs cells slots) (hx : p.tables.exec = Jvm.exec) {o : Int} (hd : decode c.code pc = .ok (.goto o, 3)) (ho : 0 ≤ (pc : Int) + o) (hp : ((pc : Int) + o).toNat = q) (K : own_Go p e below s kc ks Q (T.setTop (mkF m q Ls st))) : own_Go p e below s kc ks Q (T.setTop (mkF m pc Ls st)) := by
  exact own_via (fun t => XS.goto X.here hx rfl (pc0 := pc) (pc' := q) rfl hd ho hp) K
theorem own_ldc (X : Stand p l e R s m args below meth c T locs cells slots) (hx : p.tables.exec = Jvm.exec) {Z : State} {a0 : Array Value} (hZ : Z.Warmed39 s.vm) {own : String} {i : Nat} {v : Int32} (hown : s.vm.findClass own = some m.cls) (w : (Cond.constant own i v).before a0 Z = true) (hd : decode c.code pc = .ok (.ldc i, 2)) (hq : pc + 2 = q) (K : own_Go p e below s kc ks Q (T.setTop (mkF m q Ls (.int v :: st)))) : own_Go p e below s kc ks Q (T.setTop (mkF m pc Ls st)) := by
  subst hq; exact own_via (fun t => X.ldcI hx hown (mv hZ w) rfl hd) K
theorem own_ldcW (X : Stand p l e R s m args below meth c T locs cells slots) (hx : p.tables.exec = Jvm.exec) {Z : State} {a0 : Array Value} (hZ : Z.Warmed39 s.vm) {own : String} {i : Nat} {v : Int32} (hown : s.vm.findClass own = some m.cls) (w : (Cond.constant own i v).before a0 Z = true) (hd : decode c.code pc = .ok (.ldc_w i, 3)) (hq : pc + 3 = q) (K : own_Go p e below s kc ks Q (T.setTop (mkF m q Ls (.int v :: st)))) : own_Go p e below s kc ks Q (T.setTop (mkF m pc Ls st)) := by
  subst hq; exact own_via (fun t => X.ldcWI hx hown (mv hZ w) rfl hd) K
theorem own_ldc2 (X : Stand p l e R s m args below meth c T locs cells slots) (hx : p.tables.exec = Jvm.exec) {Z : State} {a0 : Array Value} (hZ : Z.Warmed39 s.vm) {own : String} {i : Nat} {v : Int64} (hown : s.vm.findClass own = some m.cls) (w : (Cond.constantLong own i v).before a0 Z = true) (hd : decode c.code pc = .ok (.ldc2_w i, 3)) (hq : pc + 3 = q) (K : own_Go p e below s kc ks Q (T.setTop (mkF m q Ls (.long v :: st)))) : own_Go p e below s kc ks Q (T.setTop (mkF m pc Ls st)) := by
  subst hq; exact own_via (fun t => X.ldc2J hx hown (mv hZ w) rfl hd) K
def own_pos : ClassFile.Cond → Bool | .eq => true | .lt => true | .gt => true | _ => false
def own_base {α : Type} [LT α] : ClassFile.Cond → α → α → Prop | .eq, x, y => x = y | .ne, x, y => x = y | .lt, x, y => x < y | .ge, x, y => x < y | .gt, x, y => y < x | .le, x, y => y < x
theorem own_ii {cd : ClassFile.Cond} {x y : Int32} : (own_base cd x y → if_icmp.holds cd x y = own_pos cd) ∧ (¬ own_base cd x y → if_icmp.holds cd x y = !own_pos cd) := by
  cases cd <;> simp only [own_base, own_pos, Bool.not_true, Bool.not_false]
  · exact ⟨XT.ii_eq_t, XT.ii_eq_f⟩
  · exact ⟨XT.ii_ne_f, XT.ii_ne_t⟩
  · exact ⟨XT.ii_lt_t, XT.ii_lt_f⟩
  · exact ⟨XT.ii_ge_f, XT.ii_ge_t⟩
  · exact ⟨XT.ii_gt_t, XT.ii_gt_f⟩
  · exact ⟨XT.ii_le_f, XT.ii_le_t⟩
theorem own_ll {cd : ClassFile.Cond} {x y : Int64} : (own_base cd x y → ifCond.holds cd (XT.cmpL x y) = own_pos cd) ∧ (¬ own_base cd x y → ifCond.holds cd (XT.cmpL x y) = !own_pos cd) := by
  cases cd <;> simp only [own_base, own_pos, Bool.not_true, Bool.not_false]
  · exact ⟨XT.ll_eq_t, XT.ll_eq_f⟩
  · exact ⟨XT.ll_ne_f, XT.ll_ne_t⟩
  · exact ⟨XT.ll_lt_t, XT.ll_lt_f⟩
  · exact ⟨XT.ll_ge_f, XT.ll_ge_t⟩
  · exact ⟨XT.ll_gt_t, XT.ll_gt_f⟩
  · exact ⟨XT.ll_le_f, XT.ll_le_t⟩
theorem own_icmpP (X : Stand p l e R s m args below meth c T locs cells slots) (hx : p.tables.exec = Jvm.exec) {x y : Int32} {cd : ClassFile.Cond} {o : Int} {pt : Nat} (hd : decode c.code pc = .ok (.if_icmp cd o, 3)) (ho : 0 ≤ (pc : Int) + o) (hp : ((pc : Int) + o).toNat = pt) (hq : pc + 3 = q) (hs : own_pos cd = true) (K1 : own_base cd x y → own_Go p e below s kc ks Q (T.setTop (mkF m pt Ls st))) (K2 : ¬ own_base cd x y → own_Go p e below s kc ks Q (T.setTop (mkF m q Ls st))) : own_Go p e below s kc ks Q (T.setTop (mkF m pc Ls (.int y :: .int x :: st))) := by
  subst hq
  by_cases h : own_base cd x y
  · exact own_via (fun t => XS.icmpYes X.here hx rfl (pc0 := pc) (pc' := pt) rfl hd rfl ((own_ii.1 h).trans hs) ho hp) (K1 h)
  · exact own_via (fun t => XS.icmpNo X.here hx rfl hd rfl ((own_ii.2 h).trans (by rw [hs]; rfl))) (K2 h)
theorem own_icmpM (X : Stand p l e R s m args below meth c T locs cells slots) (hx : p.tables.exec = Jvm.exec) {x y : Int32} {cd : ClassFile.Cond} {o : Int} {pt : Nat} (hd : decode c.code pc = .ok (.if_icmp cd o, 3)) (ho : 0 ≤ (pc : Int) + o) (hp : ((pc : Int) + o).toNat = pt) (hq : pc + 3 = q) (hs : own_pos cd = false) (K1 : ¬ own_base cd x y → own_Go p e below s kc ks Q (T.setTop (mkF m pt Ls st))) (K2 : own_base cd x y → own_Go p e below s kc ks Q (T.setTop (mkF m q Ls st))) : own_Go p e below s kc ks Q (T.setTop (mkF m pc Ls (.int y :: .int x :: st))) := by
  subst hq
  by_cases h : own_base cd x y
  · exact own_via (fun t => XS.icmpNo X.here hx rfl hd rfl ((own_ii.1 h).trans hs)) (K2 h)
  · exact own_via (fun t => XS.icmpYes X.here hx rfl (pc0 := pc) (pc' := pt) rfl hd rfl ((own_ii.2 h).trans (by rw [hs]; rfl)) ho hp) (K1 h)
theorem own_if0P (X : Stand p l e R s m args below meth c T locs cells slots) (hx : p.tables.exec = Jvm.exec) {x : Int32} {cd : ClassFile.Cond} {o : Int} {pt : Nat} (hd : decode c.code pc = .ok (.ifCond cd o, 3)) (ho : 0 ≤ (pc : Int) + o) (hp : ((pc : Int) + o).toNat = pt) (hq : pc + 3 = q) (hs : own_pos cd = true) (K1 : own_base cd x (0 : Int32) → own_Go p e below s kc ks Q (T.setTop (mkF m pt Ls st))) (K2 : ¬ own_base cd x (0 : Int32) → own_Go p e below s kc ks Q (T.setTop (mkF m q Ls st))) : own_Go p e below s kc ks Q (T.setTop (mkF m pc Ls (.int x :: st))) := by
  subst hq
  by_cases h : own_base cd x (0 : Int32)
  · exact own_via (fun t => XS.ifYes X.here hx rfl (pc0 := pc) (pc' := pt) rfl hd rfl ((if0 cd x).trans ((own_ii (y := 0).1 h).trans hs)) ho hp) (K1 h)
  · exact own_via (fun t => XS.ifNo X.here hx rfl hd rfl ((if0 cd x).trans ((own_ii (y := 0).2 h).trans (by rw [hs]; rfl)))) (K2 h)
theorem own_if0M (X : Stand p l e R s m args below meth c T locs cells slots) (hx : p.tables.exec = Jvm.exec) {x : Int32} {cd : ClassFile.Cond} {o : Int} {pt : Nat} (hd : decode c.code pc = .ok (.ifCond cd o, 3)) (ho : 0 ≤ (pc : Int) + o) (hp : ((pc : Int) + o).toNat = pt) (hq : pc + 3 = q) (hs : own_pos cd = false) (K1 : ¬ own_base cd x (0 : Int32) → own_Go p e below s kc ks Q (T.setTop (mkF m pt Ls st))) (K2 : own_base cd x (0 : Int32) → own_Go p e below s kc ks Q (T.setTop (mkF m q Ls st))) : own_Go p e below s kc ks Q (T.setTop (mkF m pc Ls (.int x :: st))) := by
  subst hq
  by_cases h : own_base cd x (0 : Int32)
  · exact own_via (fun t => XS.ifNo X.here hx rfl hd rfl ((if0 cd x).trans ((own_ii (y := 0).1 h).trans hs))) (K2 h)
  · exact own_via (fun t => XS.ifYes X.here hx rfl (pc0 := pc) (pc' := pt) rfl hd rfl ((if0 cd x).trans ((own_ii (y := 0).2 h).trans (by rw [hs]; rfl))) ho hp) (K1 h)
theorem own_ifLP (X : Stand p l e R s m args below meth c T locs cells slots) (hx : p.tables.exec = Jvm.exec) {x y : Int64} {cd : ClassFile.Cond} {o : Int} {pt : Nat} (hd : decode c.code pc = .ok (.ifCond cd o, 3)) (ho : 0 ≤ (pc : Int) + o) (hp : ((pc : Int) + o).toNat = pt) (hq : pc + 3 = q) (hs : own_pos cd = true) (K1 : own_base cd x y → own_Go p e below s kc ks Q (T.setTop (mkF m pt Ls st))) (K2 : ¬ own_base cd x y → own_Go p e below s kc ks Q (T.setTop (mkF m q Ls st))) : own_Go p e below s kc ks Q (T.setTop (mkF m pc Ls (.int (XT.cmpL x y) :: st))) := by
  subst hq
  by_cases h : own_base cd x y
  · exact own_via (fun t => XS.ifYes X.here hx rfl (pc0 := pc) (pc' := pt) rfl hd rfl ((own_ll.1 h).trans hs) ho hp) (K1 h)
  · exact own_via (fun t => XS.ifNo X.here hx rfl hd rfl ((own_ll.2 h).trans (by rw [hs]; rfl))) (K2 h)
theorem own_ifLM (X : Stand p l e R s m args below meth c T locs cells slots) (hx : p.tables.exec = Jvm.exec) {x y : Int64} {cd : ClassFile.Cond} {o : Int} {pt : Nat} (hd : decode c.code pc = .ok (.ifCond cd o, 3)) (ho : 0 ≤ (pc : Int) + o) (hp : ((pc : Int) + o).toNat = pt) (hq : pc + 3 = q) (hs : own_pos cd = false) (K1 : ¬ own_base cd x y → own_Go p e below s kc ks Q (T.setTop (mkF m pt Ls st))) (K2 : own_base cd x y → own_Go p e below s kc ks Q (T.setTop (mkF m q Ls st))) : own_Go p e below s kc ks Q (T.setTop (mkF m pc Ls (.int (XT.cmpL x y) :: st))) := by
  subst hq
  by_cases h : own_base cd x y
  · exact own_via (fun t => XS.ifNo X.here hx rfl hd rfl ((own_ll.1 h).trans hs)) (K2 h)
  · exact own_via (fun t => XS.ifYes X.here hx rfl (pc0 := pc) (pc' := pt) rfl hd rfl ((own_ll.2 h).trans (by rw [hs]; rfl)) ho hp) (K1 h)
theorem own_acmp (X : Stand p l e R s m args below meth c T locs cells slots) (hx : p.tables.exec = Jvm.exec) {cd : ACond} {v w : Value} {o : Int} {same : Bool} (hv : v.isRef = true) (hw : w.isRef = true) (hd : decode c.code pc = .ok (.if_acmp cd o, 3)) (hs : decide (v = w) = same) (ho : 0 ≤ (pc : Int) + o) (hp : q = if acV cd same = true then ((pc : Int) + o).toNat else pc + 3) (K : own_Go p e below s kc ks Q (T.setTop (mkF m q Ls st))) : own_Go p e below s kc ks Q (T.setTop (mkF m pc Ls (w :: v :: st))) := by
  exact own_via (fun t => acmp X hx rfl hv hw (pc0 := pc) rfl hd rfl hs ho hp) K
theorem own_nullY (X : Stand p l e R s m args below meth c T locs cells slots) (hx : p.tables.exec = Jvm.exec) {o : Int} (hd : decode c.code pc = .ok (.ifnull o, 3)) (ho : 0 ≤ (pc : Int) + o) (hp : ((pc : Int) + o).toNat = q) (K : own_Go p e below s kc ks Q (T.setTop (mkF m q Ls st))) : own_Go p e below s kc ks Q (T.setTop (mkF m pc Ls (.null :: st))) := by
  exact own_via (fun t => XS.ifnullYes X.here hx rfl (pc0 := pc) (pc' := q) rfl hd rfl ho hp) K
theorem own_nullN (X : Stand p l e R s m args below meth c T locs cells slots) (hx : p.tables.exec = Jvm.exec) {o : Int} {a : Addr} (hd : decode c.code pc = .ok (.ifnull o, 3)) (hq : pc + 3 = q) (K : own_Go p e below s kc ks Q (T.setTop (mkF m q Ls st))) : own_Go p e below s kc ks Q (T.setTop (mkF m pc Ls (.ref a :: st))) := by
  subst hq; exact own_via (fun t => XS.ifnullNo X.here hx rfl hd rfl) K
theorem own_nonnullY (X : Stand p l e R s m args below meth c T locs cells slots) (hx : p.tables.exec = Jvm.exec) {o : Int} {a : Addr} (hd : decode c.code pc = .ok (.ifnonnull o, 3)) (ho : 0 ≤ (pc : Int) + o) (hp : ((pc : Int) + o).toNat = q) (K : own_Go p e below s kc ks Q (T.setTop (mkF m q Ls st))) : own_Go p e below s kc ks Q (T.setTop (mkF m pc Ls (.ref a :: st))) := by
  exact own_via (fun t => XT.ifnonnullYes X.here hx rfl (pc0 := pc) (pc' := q) rfl hd rfl ho hp) K
theorem own_nonnullN (X : Stand p l e R s m args below meth c T locs cells slots) (hx : p.tables.exec = Jvm.exec) {o : Int} (hd : decode c.code pc = .ok (.ifnonnull o, 3)) (hq : pc + 3 = q) (K : own_Go p e below s kc ks Q (T.setTop (mkF m q Ls st))) : own_Go p e below s kc ks Q (T.setTop (mkF m pc Ls (.null :: st))) := by
  subst hq; exact own_via (fun t => XT.ifnonnullNo X.here hx rfl hd rfl) K
theorem own_retN (X : Stand p l e R s m args below meth c T locs cells slots) (hx : p.tables.exec = Jvm.exec) (hlk : meth.locks = false) {rest : List Value} {z : Int32} {t : FieldType} (ht : t = .boolean ∨ t = .byte ∨ t = .char ∨ t = .short) (hret : meth.sig.returnType = some t) (hd : decode c.code pc = .ok (.ireturn, 1)) (hqq : Q (some (.int (nar t z))) T.heap locs) (hc : cells ≤ kc) (hs : slots ≤ ks)  : own_Go p e below s kc ks Q (T.setTop (mkF m pc Ls (.int z :: rest))) := by
  obtain ⟨fs, hr, hrun, hended, hW, hsame⟩ := X.leave (v := (some (.int (nar t z)))) (fun h => by rw [hret] at h; cases h) hlk
  exact ⟨_, _, retN X hx hret ht hd hr, hrun, hended, _, _, rfl, hqq, ⟨_, rfl⟩, hW, hsame.mono hc hs⟩
theorem own_retI (X : Stand p l e R s m args below meth c T locs cells slots) (hx : p.tables.exec = Jvm.exec) (hlk : meth.locks = false) {rest : List Value} {z : Int32} (hret : meth.sig.returnType = some .int) (hd : decode c.code pc = .ok (.ireturn, 1)) (hqq : Q (some (.int z)) T.heap locs) (hc : cells ≤ kc) (hs : slots ≤ ks)  : own_Go p e below s kc ks Q (T.setTop (mkF m pc Ls (.int z :: rest))) := by
  obtain ⟨fs, hr, hrun, hended, hW, hsame⟩ := X.leave (v := (some (.int z))) (fun h => by rw [hret] at h; cases h) hlk
  exact ⟨_, _, retOut X hx hret rfl (Or.inl ⟨rfl, Or.inl rfl, z, rfl⟩) hd hr, hrun, hended, _, _, rfl, hqq, ⟨_, rfl⟩, hW, hsame.mono hc hs⟩
theorem own_retJ (X : Stand p l e R s m args below meth c T locs cells slots) (hx : p.tables.exec = Jvm.exec) (hlk : meth.locks = false) {rest : List Value} {z : Int64} (hret : meth.sig.returnType = some .long) (hd : decode c.code pc = .ok (.lreturn, 1)) (hqq : Q (some (.long z)) T.heap locs) (hc : cells ≤ kc) (hs : slots ≤ ks)  : own_Go p e below s kc ks Q (T.setTop (mkF m pc Ls (.long z :: rest))) := by
  obtain ⟨fs, hr, hrun, hended, hW, hsame⟩ := X.leave (v := (some (.long z))) (fun h => by rw [hret] at h; cases h) hlk
  exact ⟨_, _, retOut X hx hret rfl (Or.inr (Or.inl ⟨rfl, rfl, z, rfl⟩)) hd hr, hrun, hended, _, _, rfl, hqq, ⟨_, rfl⟩, hW, hsame.mono hc hs⟩
theorem own_retA (X : Stand p l e R s m args below meth c T locs cells slots) (hx : p.tables.exec = Jvm.exec) (hlk : meth.locks = false) {rest : List Value} {w : Value} {t : FieldType} (hw : w.isRef = true) (ht : t.isReference = true) (hn : narrow t w = w) (hret : meth.sig.returnType = some t) (hd : decode c.code pc = .ok (.areturn, 1)) (hqq : Q (some w) T.heap locs) (hc : cells ≤ kc) (hs : slots ≤ ks)  : own_Go p e below s kc ks Q (T.setTop (mkF m pc Ls (w :: rest))) := by
  obtain ⟨fs, hr, hrun, hended, hW, hsame⟩ := X.leave (v := (some w)) (fun h => by rw [hret] at h; cases h) hlk
  exact ⟨_, _, retOut X hx hret hn (Or.inr (Or.inr (Or.inr (Or.inr ⟨rfl, ht, hw⟩)))) hd hr, hrun, hended, _, _, rfl, hqq, ⟨_, rfl⟩, hW, hsame.mono hc hs⟩
theorem own_retV (X : Stand p l e R s m args below meth c T locs cells slots) (hx : p.tables.exec = Jvm.exec) (hlk : meth.locks = false) {rest : List Value} (hret : meth.sig.returnType = none) (hd : decode c.code pc = .ok (.return_, 1)) (hqq : Q none T.heap locs) (hc : cells ≤ kc) (hs : slots ≤ ks)  : own_Go p e below s kc ks Q (T.setTop (mkF m pc Ls [])) := by
  obtain ⟨fs, hr, hrun, hended, hW, hsame⟩ := X.leave (v := none) (fun _ => rfl) hlk
  exact ⟨_, _, X.returnOut hx hret hd hr, hrun, hended, _, _, rfl, hqq, ⟨_, rfl⟩, hW, hsame.mono hc hs⟩
theorem own_callS (X : Stand p l e R s m args below meth c T locs cells slots) (hx : p.tables.exec = Jvm.exec) {Z : State} {a0 : Array Value} {h : Heap} {own : String} {index : Nat} {y : MethodName} {bytes : ByteArray} {maxL : Nat} {ret : Option FieldType} {rm : Room} {W : Nat} {argsL : List Value} {Qc : Option Value → Heap → List Loc → Prop} {ps : List FieldType} {r : Option FieldType} {st0 : List Value} (hZ : Z.Warmed39 s.vm) (hown : s.vm.findClass own = some m.cls) (w1 : (Cond.methodLink own index y).before a0 Z = true) (w2 : (Cond.static y).before a0 Z = true) (w3 : (Cond.initialized y.cls).before a0 Z = true) (w4 : (Cond.code y bytes maxL ret).before a0 Z = true) (hy : y.cls ≠ "java/lang/invoke/MethodHandle" ∧ y.cls ≠ "java/lang/invoke/VarHandle") (hM : MetFree l y (head1 [Cond.code y bytes maxL ret] rm) (fun aa U => aa = argsL.toArray ∧ Z.Warmed39 U.vm ∧ U.heap = h) (fun _ _ _ _ _ => True) (fun _ U o U' => ∃ v L, o = .returned v ∧ Qc v U'.heap L ∧ FrameEnd U o U' L rm.cells rm.slots)) (hpd : parseMethodDescriptor y.desc = some ⟨ps, r⟩) (hlen : argsL.length = ps.length) (eT : T.heap = h) (hml : Ls.size = c.maxLocals) (hst : st0 = argsL.reverse ++ st) (hW : (st.map fun v => v.category).sum ≤ W) (hf : rm.frames + 1 ≤ R.frames) (hl : W + (maxL + 11) + rm.locals ≤ R.locals) (hc : cells + rm.cells ≤ R.cells) (hs : slots + rm.slots ≤ R.slots) (hd : decode c.code pc = .ok (.invokestatic index, 3)) (hq : pc + 3 = q) (K : ∀ v T' L, Stand p l e R s m args below meth c T' (locs ++ L) (cells + rm.cells) (slots + rm.slots) → Qc v T'.heap L → own_Go p e below s kc ks Q (T'.setTop (mkF m q Ls (v.toList ++ st)))) : own_Go p e below s kc ks Q (T.setTop (mkF m pc Ls st0)) := by
  subst hq hst
  obtain ⟨v, _, ⟨T', L', k', n'⟩, -, X', ⟨Lc, hQ, l', y', z'⟩, st'⟩ := Jvm.LawKit.callS X hx hown (mvT hZ w1) (mvT hZ w2) (mvT hZ w3) (mvT hZ w4) hy (backOf (W := W) hM hZ w4 w3 hf hl) (g := mkF m pc Ls (argsL.reverse ++ st)) rfl hml (argsL := argsL) (rest := st) (lenOf hpd hlen) rfl (by show 2 * 0 + _ ≤ _; omega) hd (fun _ _ => ⟨rfl, eT, hc, hs⟩)
  dsimp only [Pt.U, Pt.locs, Pt.cells, Pt.slots] at X' l' y' z' st' hQ
  subst l' y' z'
  exact own_via (fun t => st' t) (K v T' Lc X' hQ)
theorem own_callC (X : Stand p l e R s m args below meth c T locs cells slots) (hx : p.tables.exec = Jvm.exec) {a : Addr} {Z : State} {a0 : Array Value} {h : Heap} {own : String} {index : Nat} {y : MethodName} {bytes : ByteArray} {maxL : Nat} {rm : Room} {W : Nat} {argsL : List Value} {Qc : Option Value → Heap → List Loc → Prop} {ps : List FieldType} {r : Option FieldType} {st0 : List Value} (hZ : Z.Warmed39 s.vm) (hown : s.vm.findClass own = some m.cls) (hy1 : y.name = "<init>") (w1 : (Cond.methodLink own index y).before a0 Z = true) (w2 : (Cond.instanceMethod y).before a0 Z = true) (w3 : (Cond.initialized y.cls).before a0 Z = true) (w4 : (Cond.code y bytes maxL none).before a0 Z = true) (hy : y.cls ≠ "java/lang/invoke/MethodHandle" ∧ y.cls ≠ "java/lang/invoke/VarHandle") (hM : MetFree l y (head1 [Cond.code y bytes maxL none] rm) (fun aa U => aa = (.ref a :: argsL).toArray ∧ Z.Warmed39 U.vm ∧ U.heap = h) (fun _ _ _ _ _ => True) (fun _ U o U' => ∃ v L, o = .returned v ∧ Qc v U'.heap L ∧ FrameEnd U o U' L rm.cells rm.slots)) (hpd : parseMethodDescriptor y.desc = some ⟨ps, r⟩) (hlen : argsL.length = ps.length) (eT : T.heap = h) (hml : Ls.size = c.maxLocals) (hst : st0 = argsL.reverse ++ .ref a :: st) (hW : (st.map fun v => v.category).sum ≤ W) (hf : rm.frames + 1 ≤ R.frames) (hl : W + (maxL + 11) + rm.locals ≤ R.locals) (hc : cells + rm.cells ≤ R.cells) (hs : slots + rm.slots ≤ R.slots) (hd : decode c.code pc = .ok (.invokespecial index, 3)) (hq : pc + 3 = q) (K : ∀ v T' L, Stand p l e R s m args below meth c T' (locs ++ L) (cells + rm.cells) (slots + rm.slots) → Qc v T'.heap L → own_Go p e below s kc ks Q (T'.setTop (mkF m q Ls (v.toList ++ st)))) : own_Go p e below s kc ks Q (T.setTop (mkF m pc Ls st0)) := by
  subst hq hst
  obtain ⟨v, _, ⟨T', L', k', n'⟩, -, X', ⟨Lc, hQ, l', y', z'⟩, st'⟩ := X.specialBack hx hy1 hown (mvT hZ w1) (mvT hZ w2) (mvT hZ w4) hy (backOf (W := W) hM hZ w4 w3 hf hl) (g := mkF m pc Ls (argsL.reverse ++ .ref a :: st)) rfl hml (Steps.refl _) (a := a) (argsL := argsL) (rest := st) (lenOf hpd hlen) rfl (by show 2 * 0 + _ ≤ _; omega) hd (fun _ _ => ⟨rfl, eT, hc, hs⟩)
  dsimp only [Pt.U, Pt.locs, Pt.cells, Pt.slots] at X' l' y' z' st' hQ
  subst l' y' z'
  exact own_via (fun t => st'.trans) (K v T' Lc X' hQ)
theorem own_callV (X : Stand p l e R s m args below meth c T locs cells slots) (hx : p.tables.exec = Jvm.exec) {a : Addr} {C : String} {z : MethodName} {Z : State} {a0 : Array Value} {h : Heap} {own : String} {index : Nat} {y : MethodName} {bytes : ByteArray} {maxL : Nat} {ret : Option FieldType} {rm : Room} {W : Nat} {argsL : List Value} {Qc : Option Value → Heap → List Loc → Prop} {ps : List FieldType} {r : Option FieldType} {st0 : List Value} (hZ : Z.Warmed39 s.vm) (hown : s.vm.findClass own = some m.cls) (w1 : (Cond.methodLink own index y).before a0 Z = true) (w2 : (Cond.declares y).before a0 Z = true) (w5 : (Cond.selects y.cls y y).before a0 Z = true) (w6 : (Cond.selects C y z).before a0 Z = true) (w7 : (Cond.instanceMethod z).before a0 Z = true) (w3 : (Cond.initialized z.cls).before a0 Z = true) (w4 : (Cond.code z bytes maxL ret).before a0 Z = true) (E : Exa Z h a C) (hy : y.cls ≠ "java/lang/invoke/MethodHandle" ∧ y.cls ≠ "java/lang/invoke/VarHandle") (hM : MetFree l z (head1 [Cond.code z bytes maxL ret] rm) (fun aa U => aa = (.ref a :: argsL).toArray ∧ Z.Warmed39 U.vm ∧ U.heap = h) (fun _ _ _ _ _ => True) (fun _ U o U' => ∃ v L, o = .returned v ∧ Qc v U'.heap L ∧ FrameEnd U o U' L rm.cells rm.slots)) (hpd : parseMethodDescriptor y.desc = some ⟨ps, r⟩) (hlen : argsL.length = ps.length) (eT : T.heap = h) (hml : Ls.size = c.maxLocals) (hst : st0 = argsL.reverse ++ .ref a :: st) (hW : (st.map fun v => v.category).sum ≤ W) (hf : rm.frames + 1 ≤ R.frames) (hl : W + (maxL + 11) + rm.locals ≤ R.locals) (hc : cells + rm.cells ≤ R.cells) (hs : slots + rm.slots ≤ R.slots) (hd : decode c.code pc = .ok (.invokevirtual index, 3)) (hq : pc + 3 = q) (K : ∀ v T' L, Stand p l e R s m args below meth c T' (locs ++ L) (cells + rm.cells) (slots + rm.slots) → Qc v T'.heap L → own_Go p e below s kc ks Q (T'.setTop (mkF m q Ls (v.toList ++ st)))) : own_Go p e below s kc ks Q (T.setTop (mkF m pc Ls st0)) := by
  subst hq hst
  obtain ⟨cq, kq, qa, qb, qc⟩ := isOf hZ eT E
  obtain ⟨v, _, ⟨T', L', k', n'⟩, -, X', ⟨Lc, hQ, l', y', z'⟩, st'⟩ := X.virtualBack hx (y := y) (z := z) hown (mvT hZ w1) (mvT hZ w2) (notFace_of_selects (args := #[]) (mvT hZ w5)) (mvT hZ w6) (mvT hZ w7) hy (backOf (W := W) hM hZ w4 w3 hf hl) qa qc (g := mkF m pc Ls (argsL.reverse ++ .ref a :: st)) rfl hml (Steps.refl _) (argsL := argsL) (rest := st) (lenOf hpd hlen) rfl (by show 2 * 0 + _ ≤ _; omega) hd (fun _ _ => ⟨rfl, eT, hc, hs⟩)
  dsimp only [Pt.U, Pt.locs, Pt.cells, Pt.slots] at X' l' y' z' st' hQ
  subst l' y' z'
  exact own_via (fun t => st'.trans) (K v T' Lc X' hQ)
theorem own_new (X : Stand p l e R s m args below meth c T locs cells slots) (hx : p.tables.exec = Jvm.exec) {Z : State} {a0 : Array Value} {h : Heap} (hZ : Z.Warmed39 s.vm) {own : String} {i : Nat} (hown : s.vm.findClass own = some m.cls) {C : String} {n : Nat} (w : (Cond.classLink own i C).before a0 Z = true) (wi : (Cond.instantiable C n).before a0 Z = true) (wz : (Cond.initialized C).before a0 Z = true) (eT : T.heap = h) (hd : decode c.code pc = .ok (.new i, 3)) (hc : cells + 1 ≤ R.cells) (hl : slots + n ≤ R.slots) (hq : pc + 3 = q) (K : ∀ T' h' a, Stand p l e R s m args below meth c T' locs (cells + 1) (slots + n) → T'.heap = h' → a = h.size → Ext h h' → Exa Z h' a C → (∀ {O nm d : String} {ty : FieldType}, Laid Z a0 C O nm d → parseFieldDescriptor d = some ty → Fld Z h' a O nm d (defaultValue ty)) → own_Go p e below s kc ks Q (T'.setTop (mkF m q Ls (.ref a :: st)))) : own_Go p e below s kc ks Q (T.setTop (mkF m pc Ls st)) := by
  subst hq
  obtain ⟨T', h', X', e', E', A', D', -, st'⟩ := newO X hx hZ hown w wi wz eT (g := mkF m pc Ls st) rfl hd hc hl
  exact own_via (fun t => st' t) (K T' h' _ X' e' rfl E' A' D')
theorem own_getF (X : Stand p l e R s m args below meth c T locs cells slots) (hx : p.tables.exec = Jvm.exec) {Z : State} {a0 : Array Value} {h : Heap} (hZ : Z.Warmed39 s.vm) {own : String} {i : Nat} (hown : s.vm.findClass own = some m.cls) {a : Addr} {v : Value} {R0 O n d host : String} (w : (Cond.fieldLink own i R0 n d).before a0 Z = true ∨ (Cond.fieldLinkNest own i R0 n d host).before a0 Z = true) (via : Via Z R0 O n d) (eT : T.heap = h) (F : Fld Z h a O n d v) (hd : decode c.code pc = .ok (.getfield i, 3)) (hq : pc + 3 = q) (K : ∀ T', Stand p l e R s m args below meth c T' locs cells slots → T'.heap = h → own_Go p e below s kc ks Q (T'.setTop (mkF m q Ls (v :: st)))) : own_Go p e below s kc ks Q (T.setTop (mkF m pc Ls (.ref a :: st))) := by
  subst hq
  obtain ⟨T', X', e', st'⟩ := getF X hx hZ hown w via eT F (g := mkF m pc Ls (.ref a :: st)) rfl rfl hd
  exact own_via (fun t => st' t) (K T' X' e')
theorem own_putF (X : Stand p l e R s m args below meth c T locs cells slots) (hx : p.tables.exec = Jvm.exec) {Z : State} {a0 : Array Value} {h : Heap} (hZ : Z.Warmed39 s.vm) {own : String} {i : Nat} (hown : s.vm.findClass own = some m.cls) {a : Addr} {v old : Value} {R0 O n d host C : String} {kk : Nat} {ty : FieldType} (w : (Cond.fieldLink own i R0 n d).before a0 Z = true ∨ (Cond.fieldLinkNest own i R0 n d host).before a0 Z = true) (via : Via Z R0 O n d) (eT : T.heap = h) (F : Fld Z h a O n d old) (E : Exa Z h a C) (L : (Cond.lays C O n d).before a0 Z = true ∨ ((Cond.laysFinal C O n d).before a0 Z = true ∧ own = O ∧ meth.name = "<init>")) (wi : (Cond.instantiable C kk).before a0 Z = true) (hty : parseFieldDescriptor d = some ty) (hn : narrow ty v = v) (hf : fits ty v = true) (hd : decode c.code pc = .ok (.putfield i, 3)) (hq : pc + 3 = q) (K : ∀ T' h', Stand p l e R s m args below meth c T' (locs ++ [⟨a, RoadKit.slotOf Z O n d⟩]) cells slots → T'.heap = h' → Wr h h' a (RoadKit.slotOf Z O n d) v → own_Go p e below s kc ks Q (T'.setTop (mkF m q Ls st))) : own_Go p e below s kc ks Q (T.setTop (mkF m pc Ls (v :: .ref a :: st))) := by
  subst hq
  obtain ⟨T', h', X', e', W', st'⟩ := putF X hx hZ hown w via eT F E L wi hty hn hf (g := mkF m pc Ls (v :: .ref a :: st)) rfl rfl hd
  exact own_via (fun t => st' t) (K T' h' X' e' W')
theorem own_initO (X : Stand p l e R s m args below meth c T locs cells slots) (hx : p.tables.exec = Jvm.exec) {Z : State} {a0 : Array Value} {h : Heap} (hZ : Z.Warmed39 s.vm) {own : String} {i : Nat} (hown : s.vm.findClass own = some m.cls) {a : Addr} {W : Nat} (w1 : (Cond.methodLink own i Lib.objectInit).before a0 Z = true) (w2 : (Cond.instanceMethod Lib.objectInit).before a0 Z = true) (w3 : (Cond.code Lib.objectInit ⟨#[0xb1]⟩ 1 none).before a0 Z = true) (eT : T.heap = h) (hml : Ls.size = c.maxLocals) (hf : 1 ≤ R.frames) (hW : (st.map fun v => v.category).sum ≤ W) (hl : W + 12 ≤ R.locals) (hd : decode c.code pc = .ok (.invokespecial i, 3)) (hq : pc + 3 = q) (K : ∀ T', Stand p l e R s m args below meth c T' locs cells slots → T'.heap = h → own_Go p e below s kc ks Q (T'.setTop (mkF m q Ls st))) : own_Go p e below s kc ks Q (T.setTop (mkF m pc Ls (.ref a :: st))) := by
  subst hq
  obtain ⟨T', X', e', st'⟩ := initO X hx hZ hown w1 w2 w3 eT (g := mkF m pc Ls (.ref a :: st)) rfl hml rfl hd hf (W := W) (by show 2 * 0 + _ ≤ _; omega) hl
  exact own_via (fun t => st' t) (K T' X' e')
theorem own_getS (X : Stand p l e R s m args below meth c T locs cells slots) (hx : p.tables.exec = Jvm.exec) {Z : State} {a0 : Array Value} {h : Heap} (hZ : Z.Warmed39 s.vm) {own : String} {i : Nat} (hown : s.vm.findClass own = some m.cls) {v : Value} {R0 O n d : String} (w : (Cond.fieldLink own i R0 n d).before a0 Z = true) (via : Via Z R0 O n d) (eT : T.heap = h) (F : Sta Z h O n d v) (hd : decode c.code pc = .ok (.getstatic i, 3)) (hq : pc + 3 = q) (K : ∀ T', Stand p l e R s m args below meth c T' locs cells slots → T'.heap = h → own_Go p e below s kc ks Q (T'.setTop (mkF m q Ls (v :: st)))) : own_Go p e below s kc ks Q (T.setTop (mkF m pc Ls st)) := by
  subst hq
  obtain ⟨T', X', e', st'⟩ := getS X hx hZ (host := "") hown w via eT F (g := mkF m pc Ls st) rfl hd
  exact own_via (fun t => st' t) (K T' X' e')
def own_V (h : Heap) (v : Option Value) (h' : Heap) (L : List Loc) : Prop := v = none ∧ h' = h ∧ L = []
def own_Like (X : Stand p l e R s m args below meth c T locs cells slots) (T' : State) : Prop := Stand p l e R s m args below meth c T' locs cells slots ∧ T'.heap = T.heap
def own_A (Z : State) (h : Heap) (a : Addr) (ty : FieldType) (vs : List Value) : Prop := ∃ c : Cell, Arr Z h a c ty ∧ c.slots.toList = vs
theorem own_A.lt {Z : State} {h : Heap} {a : Addr} {ty : FieldType} {vs : List Value} (F : own_A Z h a ty vs) : a < h.size := by obtain ⟨c, A, -⟩ := F; exact A.lt
theorem own_A.ext {Z : State} {h h' : Heap} {a : Addr} {ty : FieldType} {vs : List Value} (F : own_A Z h a ty vs) (E : Ext h h') : own_A Z h' a ty vs := by obtain ⟨c, A, r⟩ := F; exact ⟨c, A.ext E, r⟩
theorem own_A.other {Z : State} {h h' : Heap} {a b : Addr} {ty : FieldType} {vs : List Value} {sl : Nat} {v : Value} (F : own_A Z h b ty vs) (W : Wr h h' a sl v) (q : b ≠ a) : own_A Z h' b ty vs := by obtain ⟨c, A, r⟩ := F; exact ⟨c, A.other W q, r⟩
theorem own_A.keep {Z : State} {h h' : Heap} {a : Addr} {ty : FieldType} {vs : List Value} {ws : List Addr} (F : own_A Z h a ty vs) (K : Keep h h' ws) (q : a ∉ ws) : own_A Z h' a ty vs := by obtain ⟨c, A, r⟩ := F; exact ⟨c, ⟨K.2.1 a c A.1 q, A.2⟩, r⟩
theorem own_A.set {Z : State} {h h' : Heap} {a : Addr} {ty : FieldType} {vs : List Value} {i : Nat} {v : Value} (F : own_A Z h a ty vs) (W : Wr h h' a i v) : own_A Z h' a ty (vs.set i v) := by
  obtain ⟨c, A, rfl⟩ := F; exact ⟨_, A.same W, by simp [Cell.setSlot]⟩
theorem own_in {c : Cell} {j : Int32} {i : Nat} (hn : ¬ j < 0) (hj : j.toNatClampNeg = i) (hi : i < c.slots.toList.length) : ¬ (j < 0 ∨ c.slots.size ≤ j.toNatClampNeg) := by
  rintro (h | h)
  · exact hn h
  · rw [hj] at h; rw [Array.length_toList] at hi; exact absurd hi (Nat.not_lt.mpr h)
theorem own_iaload (X : Stand p l e R s m args below meth c T locs cells slots) (hx : p.tables.exec = Jvm.exec) {Z : State} {h : Heap} (hZ : Z.Warmed39 s.vm) {a : Addr} {j : Int32} {i : Nat} {vs : List Value} (eT : T.heap = h) {v : Value} (F : own_A Z h a .int vs) (hn : ¬ j < 0) (hj : j.toNatClampNeg = i) (hv : vs[i]? = some v) (hd : decode c.code pc = .ok (.iaload, 1)) (hq : pc + 1 = q) (K : own_Go p e below s kc ks Q (T.setTop (mkF m q Ls (v :: st)))) : own_Go p e below s kc ks Q (T.setTop (mkF m pc Ls (.int j :: .ref a :: st))) := by
  subst hq
  obtain ⟨cl, A, rfl⟩ := F
  have hv' : cl.slots[j.toNatClampNeg]? = some v := by rw [hj, ← Array.getElem?_toList]; exact hv
  have hin := own_in (c := cl) hn hj (List.getElem?_eq_some_iff.mp hv).1
  exact own_via (fun t => X.iaload hx (by rw [eT]; exact A.1) (State.isArrayOf_alike hZ.alike A.2.1) A.2.2 hin hv' (g := mkF m pc Ls (.int j :: .ref a :: st)) rfl rfl hd t) K
theorem own_laload (X : Stand p l e R s m args below meth c T locs cells slots) (hx : p.tables.exec = Jvm.exec) {Z : State} {h : Heap} (hZ : Z.Warmed39 s.vm) {a : Addr} {j : Int32} {i : Nat} {vs : List Value} (eT : T.heap = h) {v : Value} (F : own_A Z h a .long vs) (hn : ¬ j < 0) (hj : j.toNatClampNeg = i) (hv : vs[i]? = some v) (hd : decode c.code pc = .ok (.laload, 1)) (hq : pc + 1 = q) (K : own_Go p e below s kc ks Q (T.setTop (mkF m q Ls (v :: st)))) : own_Go p e below s kc ks Q (T.setTop (mkF m pc Ls (.int j :: .ref a :: st))) := by
  subst hq
  obtain ⟨cl, A, rfl⟩ := F
  have hv' : cl.slots[j.toNatClampNeg]? = some v := by rw [hj, ← Array.getElem?_toList]; exact hv
  have hin := own_in (c := cl) hn hj (List.getElem?_eq_some_iff.mp hv).1
  exact own_via (fun t => X.laload hx (by rw [eT]; exact A.1) (State.isArrayOf_alike hZ.alike A.2.1) A.2.2 hin hv' (g := mkF m pc Ls (.int j :: .ref a :: st)) rfl rfl hd t) K
theorem own_caload (X : Stand p l e R s m args below meth c T locs cells slots) (hx : p.tables.exec = Jvm.exec) {Z : State} {h : Heap} (hZ : Z.Warmed39 s.vm) {a : Addr} {j : Int32} {i : Nat} {vs : List Value} (eT : T.heap = h) {v : Value} (F : own_A Z h a .char vs) (hn : ¬ j < 0) (hj : j.toNatClampNeg = i) (hv : vs[i]? = some v) (hd : decode c.code pc = .ok (.caload, 1)) (hq : pc + 1 = q) (K : own_Go p e below s kc ks Q (T.setTop (mkF m q Ls (v :: st)))) : own_Go p e below s kc ks Q (T.setTop (mkF m pc Ls (.int j :: .ref a :: st))) := by
  subst hq
  obtain ⟨cl, A, rfl⟩ := F
  have hv' : cl.slots[j.toNatClampNeg]? = some v := by rw [hj, ← Array.getElem?_toList]; exact hv
  have hin := own_in (c := cl) hn hj (List.getElem?_eq_some_iff.mp hv).1
  exact own_via (fun t => X.caload hx (by rw [eT]; exact A.1) (State.isArrayOf_alike hZ.alike A.2.1) A.2.2 hin hv' (g := mkF m pc Ls (.int j :: .ref a :: st)) rfl rfl hd t) K
theorem own_baload (X : Stand p l e R s m args below meth c T locs cells slots) (hx : p.tables.exec = Jvm.exec) {Z : State} {h : Heap} (hZ : Z.Warmed39 s.vm) {a : Addr} {j : Int32} {i : Nat} {vs : List Value} (eT : T.heap = h) {v : Value} (F : own_A Z h a .byte vs) (hn : ¬ j < 0) (hj : j.toNatClampNeg = i) (hv : vs[i]? = some v) (hd : decode c.code pc = .ok (.baload, 1)) (hq : pc + 1 = q) (K : own_Go p e below s kc ks Q (T.setTop (mkF m q Ls (v :: st)))) : own_Go p e below s kc ks Q (T.setTop (mkF m pc Ls (.int j :: .ref a :: st))) := by
  subst hq
  obtain ⟨cl, A, rfl⟩ := F
  have hv' : cl.slots[j.toNatClampNeg]? = some v := by rw [hj, ← Array.getElem?_toList]; exact hv
  have hin := own_in (c := cl) hn hj (List.getElem?_eq_some_iff.mp hv).1
  exact own_via (fun t => X.baloadBytes hx (by rw [eT]; exact A.1) (State.isArrayOf_alike hZ.alike A.2.1) A.2.2 hin hv' (g := mkF m pc Ls (.int j :: .ref a :: st)) rfl rfl hd t) K
theorem own_zaload (X : Stand p l e R s m args below meth c T locs cells slots) (hx : p.tables.exec = Jvm.exec) {Z : State} {h : Heap} (hZ : Z.Warmed39 s.vm) {a : Addr} {j : Int32} {i : Nat} {vs : List Value} (eT : T.heap = h) {v : Value} (F : own_A Z h a .boolean vs) (hn : ¬ j < 0) (hj : j.toNatClampNeg = i) (hv : vs[i]? = some v) (hd : decode c.code pc = .ok (.baload, 1)) (hq : pc + 1 = q) (K : own_Go p e below s kc ks Q (T.setTop (mkF m q Ls (v :: st)))) : own_Go p e below s kc ks Q (T.setTop (mkF m pc Ls (.int j :: .ref a :: st))) := by
  subst hq
  obtain ⟨cl, A, rfl⟩ := F
  have hv' : cl.slots[j.toNatClampNeg]? = some v := by rw [hj, ← Array.getElem?_toList]; exact hv
  have hin := own_in (c := cl) hn hj (List.getElem?_eq_some_iff.mp hv).1
  exact own_via (fun t => X.baloadBooleans hx (by rw [eT]; exact A.1) (State.isArrayOf_alike hZ.alike A.2.1) A.2.2 hin hv' (g := mkF m pc Ls (.int j :: .ref a :: st)) rfl rfl hd t) K
theorem own_alen (X : Stand p l e R s m args below meth c T locs cells slots) (hx : p.tables.exec = Jvm.exec) {Z : State} {h : Heap} (hZ : Z.Warmed39 s.vm) {a : Addr} {vs : List Value} {ty : FieldType} {n : Int32} (eT : T.heap = h) (F : own_A Z h a ty vs) (hn : vs.length.toInt32 = n) (hd : decode c.code pc = .ok (.arraylength, 1)) (hq : pc + 1 = q) (K : own_Go p e below s kc ks Q (T.setTop (mkF m q Ls (.int n :: st)))) : own_Go p e below s kc ks Q (T.setTop (mkF m pc Ls (.ref a :: st))) := by
  subst hq
  obtain ⟨cl, A, rfl⟩ := F
  rw [Array.length_toList] at hn
  subst hn
  exact own_via (fun t => X.arraylength hx (by rw [eT]; exact A.1) (State.isArrayOf_alike hZ.alike A.2.1) (g := mkF m pc Ls (.ref a :: st)) rfl rfl hd t) K
theorem own_iastore (X : Stand p l e R s m args below meth c T locs cells slots) (hx : p.tables.exec = Jvm.exec) {Z : State} {h : Heap} (hZ : Z.Warmed39 s.vm) {a : Addr} {j : Int32} {i : Nat} {vs : List Value} (eT : T.heap = h) {x : Int32} (F : own_A Z h a .int vs) (hn : ¬ j < 0) (hj : j.toNatClampNeg = i) (hi : i < vs.length) (hd : decode c.code pc = .ok (.iastore, 1)) (hq : pc + 1 = q) (K : ∀ T' h', Stand p l e R s m args below meth c T' (locs ++ [⟨a, i⟩]) cells slots → T'.heap = h' → Wr h h' a i (.int x) → own_A Z h' a .int (vs.set i (.int x)) → own_Go p e below s kc ks Q (T'.setTop (mkF m q Ls st))) : own_Go p e below s kc ks Q (T.setTop (mkF m pc Ls (.int x :: .int j :: .ref a :: st))) := by
  subst hq hj
  have F' := F
  obtain ⟨cl, A, rfl⟩ := F
  have hin := own_in (c := cl) hn rfl hi
  obtain ⟨T', h', X', e', W', st'⟩ := stI X hx hZ eT A hin (g := mkF m pc Ls (.int x :: .int j :: .ref a :: st)) rfl rfl hd
  exact own_via (fun t => st' t) (K T' h' X' e' W' (F'.set W'))
theorem own_lastore (X : Stand p l e R s m args below meth c T locs cells slots) (hx : p.tables.exec = Jvm.exec) {Z : State} {h : Heap} (hZ : Z.Warmed39 s.vm) {a : Addr} {j : Int32} {i : Nat} {vs : List Value} (eT : T.heap = h) {x : Int64} (F : own_A Z h a .long vs) (hn : ¬ j < 0) (hj : j.toNatClampNeg = i) (hi : i < vs.length) (hd : decode c.code pc = .ok (.lastore, 1)) (hq : pc + 1 = q) (K : ∀ T' h', Stand p l e R s m args below meth c T' (locs ++ [⟨a, i⟩]) cells slots → T'.heap = h' → Wr h h' a i (.long x) → own_A Z h' a .long (vs.set i (.long x)) → own_Go p e below s kc ks Q (T'.setTop (mkF m q Ls st))) : own_Go p e below s kc ks Q (T.setTop (mkF m pc Ls (.long x :: .int j :: .ref a :: st))) := by
  subst hq hj
  have F' := F
  obtain ⟨cl, A, rfl⟩ := F
  have hin := own_in (c := cl) hn rfl hi
  obtain ⟨T', h', X', e', W', st'⟩ := stJ X hx hZ eT A hin (g := mkF m pc Ls (.long x :: .int j :: .ref a :: st)) rfl rfl hd
  exact own_via (fun t => st' t) (K T' h' X' e' W' (F'.set W'))
theorem own_castore (X : Stand p l e R s m args below meth c T locs cells slots) (hx : p.tables.exec = Jvm.exec) {Z : State} {h : Heap} (hZ : Z.Warmed39 s.vm) {a : Addr} {j : Int32} {i : Nat} {vs : List Value} (eT : T.heap = h) {x : Int32} (F : own_A Z h a .char vs) (hn : ¬ j < 0) (hj : j.toNatClampNeg = i) (hi : i < vs.length) (hd : decode c.code pc = .ok (.castore, 1)) (hq : pc + 1 = q) (K : ∀ T' h', Stand p l e R s m args below meth c T' (locs ++ [⟨a, i⟩]) cells slots → T'.heap = h' → Wr h h' a i (.int (nar .char x)) → own_A Z h' a .char (vs.set i (.int (nar .char x))) → own_Go p e below s kc ks Q (T'.setTop (mkF m q Ls st))) : own_Go p e below s kc ks Q (T.setTop (mkF m pc Ls (.int x :: .int j :: .ref a :: st))) := by
  subst hq hj
  have F' := F
  obtain ⟨cl, A, rfl⟩ := F
  have hin := own_in (c := cl) hn rfl hi
  obtain ⟨T', h', X', e', W', st'⟩ := stC X hx hZ eT A hin (g := mkF m pc Ls (.int x :: .int j :: .ref a :: st)) rfl rfl hd
  exact own_via (fun t => st' t) (K T' h' X' e' W' (F'.set W'))
theorem own_bastore (X : Stand p l e R s m args below meth c T locs cells slots) (hx : p.tables.exec = Jvm.exec) {Z : State} {h : Heap} (hZ : Z.Warmed39 s.vm) {a : Addr} {j : Int32} {i : Nat} {vs : List Value} (eT : T.heap = h) {x : Int32} (F : own_A Z h a .byte vs) (hn : ¬ j < 0) (hj : j.toNatClampNeg = i) (hi : i < vs.length) (hd : decode c.code pc = .ok (.bastore, 1)) (hq : pc + 1 = q) (K : ∀ T' h', Stand p l e R s m args below meth c T' (locs ++ [⟨a, i⟩]) cells slots → T'.heap = h' → Wr h h' a i (.int x.toInt8.toInt32) → own_A Z h' a .byte (vs.set i (.int x.toInt8.toInt32)) → own_Go p e below s kc ks Q (T'.setTop (mkF m q Ls st))) : own_Go p e below s kc ks Q (T.setTop (mkF m pc Ls (.int x :: .int j :: .ref a :: st))) := by
  subst hq hj
  have F' := F
  obtain ⟨cl, A, rfl⟩ := F
  have hin := own_in (c := cl) hn rfl hi
  obtain ⟨T', h', X', e', W', st'⟩ := stB X hx hZ eT A hin (g := mkF m pc Ls (.int x :: .int j :: .ref a :: st)) rfl rfl hd
  exact own_via (fun t => st' t) (K T' h' X' e' W' (F'.set W'))
theorem own_zastore (X : Stand p l e R s m args below meth c T locs cells slots) (hx : p.tables.exec = Jvm.exec) {Z : State} {h : Heap} (hZ : Z.Warmed39 s.vm) {a : Addr} {j : Int32} {i : Nat} {vs : List Value} (eT : T.heap = h) {x : Int32} (F : own_A Z h a .boolean vs) (hn : ¬ j < 0) (hj : j.toNatClampNeg = i) (hi : i < vs.length) (hd : decode c.code pc = .ok (.bastore, 1)) (hq : pc + 1 = q) (K : ∀ T' h', Stand p l e R s m args below meth c T' (locs ++ [⟨a, i⟩]) cells slots → T'.heap = h' → Wr h h' a i (.int (nar .boolean x)) → own_A Z h' a .boolean (vs.set i (.int (nar .boolean x))) → own_Go p e below s kc ks Q (T'.setTop (mkF m q Ls st))) : own_Go p e below s kc ks Q (T.setTop (mkF m pc Ls (.int x :: .int j :: .ref a :: st))) := by
  subst hq hj
  have F' := F
  obtain ⟨cl, A, rfl⟩ := F
  have hin := own_in (c := cl) hn rfl hi
  obtain ⟨T', h', X', e', W', st'⟩ := stZ X hx hZ eT A hin (g := mkF m pc Ls (.int x :: .int j :: .ref a :: st)) rfl rfl hd
  exact own_via (fun t => st' t) (K T' h' X' e' W' (F'.set W'))
theorem own_newA (X : Stand p l e R s m args below meth c T locs cells slots) (hx : p.tables.exec = Jvm.exec) {Z : State} {a0 : Array Value} {h : Heap} (hZ : Z.Warmed39 s.vm) {aty : ArrayType} {ty : FieldType} {n : Int32} {k cap : Nat} (hty : newarray.typeOf aty = ty) (w : (Cond.arrayClass ty).before a0 Z = true) (eT : T.heap = h) (hn : ¬ n < 0) (hk : n.toNatClampNeg = k) (hcap : k ≤ cap) (hb8 : cap * 8 ≤ 536870912) (hc : cells + 1 ≤ R.cells) (hl : slots + cap ≤ R.slots) (hd : decode c.code pc = .ok (.newarray aty, 2)) (hq : pc + 2 = q) (K : ∀ T' h' a, Stand p l e R s m args below meth c T' locs (cells + 1) (slots + cap) → T'.heap = h' → a = h.size → Ext h h' → own_A Z h' a ty (List.replicate k (defaultValue ty)) → own_Go p e below s kc ks Q (T'.setTop (mkF m q Ls (.ref a :: st)))) : own_Go p e below s kc ks Q (T.setTop (mkF m pc Ls (.int n :: st))) := by
  subst hq hty hk
  obtain ⟨T', h', cA, X', e', E', A', st'⟩ := newP X hx hZ w eT (g := mkF m pc Ls (.int n :: st)) rfl hd rfl hn hcap hb8 hc hl
  exact own_via (fun t => st' t) (K T' h' _ X' e' rfl E' ⟨_, A', by simp [newA]⟩)
theorem own_lswHit (X : Stand p l e R s m args below meth c T locs cells slots) (hx : p.tables.exec = Jvm.exec) {k : Int32} {dflt : Int} {prs : Array (Int × Int)} {len : Nat} {v : Int32} {b off : Int} (hk : k = v) (hd : decode c.code pc = .ok (.lookupswitch dflt prs, len)) (hs : (prs.toList.zip (prs.toList.drop 1)).all (fun (a, next) => a.1 < next.1) = true) (hf : prs.find? (·.1 == v.toInt) = some (b, off)) (ho : 0 ≤ (pc : Int) + off) (hp : ((pc : Int) + off).toNat = q) (K : own_Go p e below s kc ks Q (T.setTop (mkF m q Ls st))) : own_Go p e below s kc ks Q (T.setTop (mkF m pc Ls (.int k :: st))) := by
  subst hk hp; exact own_via (fun t => X.lookupswitchHit hx (g := mkF m pc Ls (.int k :: st)) rfl rfl hd hs hf ho t) K
theorem own_lswMiss (X : Stand p l e R s m args below meth c T locs cells slots) (hx : p.tables.exec = Jvm.exec) {k : Int32} {dflt : Int} {prs : Array (Int × Int)} {len : Nat} (hm : prs.find? (·.1 == k.toInt) = none) (hd : decode c.code pc = .ok (.lookupswitch dflt prs, len)) (hs : (prs.toList.zip (prs.toList.drop 1)).all (fun (a, next) => a.1 < next.1) = true) (ho : 0 ≤ (pc : Int) + dflt) (hp : ((pc : Int) + dflt).toNat = q) (K : own_Go p e below s kc ks Q (T.setTop (mkF m q Ls st))) : own_Go p e below s kc ks Q (T.setTop (mkF m pc Ls (.int k :: st))) := by
  subst hp; exact own_via (fun t => X.lookupswitchMiss hx (g := mkF m pc Ls (.int k :: st)) rfl rfl hd hs hm ho t) K
theorem own_instY (X : Stand p l e R s m args below meth c T locs cells slots) (hx : p.tables.exec = Jvm.exec) {Z : State} {a0 : Array Value} {h : Heap} (hZ : Z.Warmed39 s.vm) {own : String} {i : Nat} (hown : s.vm.findClass own = some m.cls) {a : Addr} {K0 : String} (w : (Cond.classLink own i K0).before a0 Z = true) (eT : T.heap = h) (F : Ins Z h a K0 true) (hd : decode c.code pc = .ok (.instanceof i, 3)) (hq : pc + 3 = q) (K : ∀ T', Stand p l e R s m args below meth c T' locs cells slots → T'.heap = h → own_Go p e below s kc ks Q (T'.setTop (mkF m q Ls (.int 1 :: st)))) : own_Go p e below s kc ks Q (T.setTop (mkF m pc Ls (.ref a :: st))) := by
  subst hq
  obtain ⟨T', X', e', st'⟩ := instY X hx hZ hown w eT F (g := mkF m pc Ls (.ref a :: st)) rfl rfl hd
  exact own_via (fun t => st' t) (K T' X' e')
theorem own_instN (X : Stand p l e R s m args below meth c T locs cells slots) (hx : p.tables.exec = Jvm.exec) {Z : State} {a0 : Array Value} {h : Heap} (hZ : Z.Warmed39 s.vm) {own : String} {i : Nat} (hown : s.vm.findClass own = some m.cls) {a : Addr} {K0 C : String} (w : (Cond.classLink own i K0).before a0 Z = true) (eT : T.heap = h) (E : Exa Z h a C) (F : ∃ c t, Z.vm.findClass C = some c ∧ Z.vm.findClass K0 = some t ∧ Z.vm.assignable c t = false) (hd : decode c.code pc = .ok (.instanceof i, 3)) (hq : pc + 3 = q) (K : ∀ T', Stand p l e R s m args below meth c T' locs cells slots → T'.heap = h → own_Go p e below s kc ks Q (T'.setTop (mkF m q Ls (.int 0 :: st)))) : own_Go p e below s kc ks Q (T.setTop (mkF m pc Ls (.ref a :: st))) := by
  subst hq
  obtain ⟨T', X', e', st'⟩ := instNo X hx hZ hown w eT E F (g := mkF m pc Ls (.ref a :: st)) rfl rfl hd
  exact own_via (fun t => st' t) (K T' X' e')
theorem own_cast (X : Stand p l e R s m args below meth c T locs cells slots) (hx : p.tables.exec = Jvm.exec) {Z : State} {a0 : Array Value} {h : Heap} (hZ : Z.Warmed39 s.vm) {own : String} {i : Nat} (hown : s.vm.findClass own = some m.cls) {a : Addr} {K0 : String} (w : (Cond.classLink own i K0).before a0 Z = true) (eT : T.heap = h) (F : Ins Z h a K0 true) (hd : decode c.code pc = .ok (.checkcast i, 3)) (hq : pc + 3 = q) (K : ∀ T', Stand p l e R s m args below meth c T' locs cells slots → T'.heap = h → own_Go p e below s kc ks Q (T'.setTop (mkF m q Ls (.ref a :: st)))) : own_Go p e below s kc ks Q (T.setTop (mkF m pc Ls (.ref a :: st))) := by
  subst hq
  obtain ⟨T', X', e', st'⟩ := castY X hx hZ hown w eT F (g := mkF m pc Ls (.ref a :: st)) rfl rfl hd
  exact own_via (fun t => st' t) (K T' X' e')
theorem own_inst0 (X : Stand p l e R s m args below meth c T locs cells slots) (hx : p.tables.exec = Jvm.exec) {i : Nat} (hd : decode c.code pc = .ok (.instanceof i, 3)) (hq : pc + 3 = q) (K : own_Go p e below s kc ks Q (T.setTop (mkF m q Ls (.int 0 :: st)))) : own_Go p e below s kc ks Q (T.setTop (mkF m pc Ls (.null :: st))) := by
  subst hq; exact own_via (fun t => X.instanceofNull hx (g := mkF m pc Ls (.null :: st)) rfl (rest := st) rfl hd t) K
theorem own_staKeep {Z : State} {h h' : Heap} {ws : List Addr} {C n d : String} {v : Value} (F : Sta Z h C n d v) (K : Keep h h' ws) (q : ∀ a ∈ ws, ∀ c : Cell, h[a]? = some c → c.vm.isStatics = false) : Sta Z h' C n d v := by
  obtain ⟨cf, i, k, f, st, cell, h1, h2, h3, h4, h5, h6, h7⟩ := F
  exact ⟨cf, i, k, f, st, cell, h1, h2, h3, h4, K.2.1 st cell h5 (fun hm => by rw [q st hm cell h5] at h6; cases h6), h6, h7⟩
theorem own_exaPlain {Z : State} {h : Heap} {a : Addr} {C : String} (E : Exa Z h a C) : ∀ c : Cell, h[a]? = some c → c.vm.isStatics = false := fun c hc => by
  obtain ⟨cell, k, h1, -, -, h4, -⟩ := E
  cases h1.symm.trans hc; exact h4
theorem own_A.plain {Z : State} {h : Heap} {a : Addr} {ty : FieldType} {vs : List Value} (F : own_A Z h a ty vs) : ∀ c : Cell, h[a]? = some c → c.vm.isStatics = false := fun c hc => by
  obtain ⟨cl, A, -⟩ := F
  cases A.1.symm.trans hc; exact A.plain
theorem own_callSP (X : Stand p l e R s m args below meth c T locs cells slots) (hx : p.tables.exec = Jvm.exec) {Z : State} {a0 : Array Value} {h : Heap} {own : String} {index : Nat} {y : MethodName} {bytes : ByteArray} {maxL : Nat} {ret : Option FieldType} {W : Nat} {argsL : List Value} {fr lo : Nat} {w : Value} {ps : List FieldType} {r : Option FieldType} {st0 : List Value} (hZ : Z.Warmed39 s.vm) (hown : s.vm.findClass own = some m.cls) (w1 : (Cond.methodLink own index y).before a0 Z = true) (w2 : (Cond.static y).before a0 Z = true) (w3 : (Cond.initialized y.cls).before a0 Z = true) (w4 : (Cond.code y bytes maxL ret).before a0 Z = true) (hy : y.cls ≠ "java/lang/invoke/MethodHandle" ∧ y.cls ≠ "java/lang/invoke/VarHandle") (hM : MetFree l y (head1 [Cond.code y bytes maxL ret] ({ frames := fr, cells := 0, slots := 0, locals := lo } : Room)) (fun aa U => aa = argsL.toArray ∧ Z.Warmed39 U.vm ∧ U.heap = h) (fun _ _ _ _ _ => True) (fun _ U o U' => ∃ v L, o = .returned v ∧ own_P w h v U'.heap L ∧ FrameEnd U o U' L 0 0)) (hpd : parseMethodDescriptor y.desc = some ⟨ps, r⟩) (hlen : argsL.length = ps.length) (eT : T.heap = h) (hml : Ls.size = c.maxLocals) (hst : st0 = argsL.reverse ++ st) (hW : (st.map fun v => v.category).sum ≤ W) (hf : fr + 1 ≤ R.frames) (hl : W + (maxL + 11) + lo ≤ R.locals) (hc : cells ≤ R.cells) (hs : slots ≤ R.slots) (hd : decode c.code pc = .ok (.invokestatic index, 3)) (hq : pc + 3 = q) (K : ∀ T', Stand p l e R s m args below meth c T' locs cells slots → T'.heap = h → own_Go p e below s kc ks Q (T'.setTop (mkF m q Ls (w :: st)))) : own_Go p e below s kc ks Q (T.setTop (mkF m pc Ls st0)) := by
  refine own_callS X hx hZ hown w1 w2 w3 w4 hy hM hpd hlen eT hml hst hW hf hl hc hs hd hq fun v T' L X' hQ => ?_
  obtain ⟨rfl, eh, rfl⟩ := hQ
  rw [List.append_nil] at X'
  exact K T' X' eh
theorem own_callVP (X : Stand p l e R s m args below meth c T locs cells slots) (hx : p.tables.exec = Jvm.exec) {a : Addr} {C : String} {z : MethodName} {Z : State} {a0 : Array Value} {h : Heap} {own : String} {index : Nat} {y : MethodName} {bytes : ByteArray} {maxL : Nat} {ret : Option FieldType} {W : Nat} {argsL : List Value} {fr lo : Nat} {w : Value} {ps : List FieldType} {r : Option FieldType} {st0 : List Value} (hZ : Z.Warmed39 s.vm) (hown : s.vm.findClass own = some m.cls) (w1 : (Cond.methodLink own index y).before a0 Z = true) (w2 : (Cond.declares y).before a0 Z = true) (w5 : (Cond.selects y.cls y y).before a0 Z = true) (w6 : (Cond.selects C y z).before a0 Z = true) (w7 : (Cond.instanceMethod z).before a0 Z = true) (w3 : (Cond.initialized z.cls).before a0 Z = true) (w4 : (Cond.code z bytes maxL ret).before a0 Z = true) (E : Exa Z h a C) (hy : y.cls ≠ "java/lang/invoke/MethodHandle" ∧ y.cls ≠ "java/lang/invoke/VarHandle") (hM : MetFree l z (head1 [Cond.code z bytes maxL ret] ({ frames := fr, cells := 0, slots := 0, locals := lo } : Room)) (fun aa U => aa = (.ref a :: argsL).toArray ∧ Z.Warmed39 U.vm ∧ U.heap = h) (fun _ _ _ _ _ => True) (fun _ U o U' => ∃ v L, o = .returned v ∧ own_P w h v U'.heap L ∧ FrameEnd U o U' L 0 0)) (hpd : parseMethodDescriptor y.desc = some ⟨ps, r⟩) (hlen : argsL.length = ps.length) (eT : T.heap = h) (hml : Ls.size = c.maxLocals) (hst : st0 = argsL.reverse ++ .ref a :: st) (hW : (st.map fun v => v.category).sum ≤ W) (hf : fr + 1 ≤ R.frames) (hl : W + (maxL + 11) + lo ≤ R.locals) (hc : cells ≤ R.cells) (hs : slots ≤ R.slots) (hd : decode c.code pc = .ok (.invokevirtual index, 3)) (hq : pc + 3 = q) (K : ∀ T', Stand p l e R s m args below meth c T' locs cells slots → T'.heap = h → own_Go p e below s kc ks Q (T'.setTop (mkF m q Ls (w :: st)))) : own_Go p e below s kc ks Q (T.setTop (mkF m pc Ls st0)) := by
  refine own_callV X hx hZ hown w1 w2 w5 w6 w7 w3 w4 E hy hM hpd hlen eT hml hst hW hf hl hc hs hd hq fun v T' L X' hQ => ?_
  obtain ⟨rfl, eh, rfl⟩ := hQ
  rw [List.append_nil] at X'
  exact K T' X' eh
theorem own_callCV (X : Stand p l e R s m args below meth c T locs cells slots) (hx : p.tables.exec = Jvm.exec) {a : Addr} {Z : State} {a0 : Array Value} {h : Heap} {own : String} {index : Nat} {y : MethodName} {bytes : ByteArray} {maxL : Nat} {W : Nat} {argsL : List Value} {fr lo : Nat} {ps : List FieldType} {r : Option FieldType} {st0 : List Value} (hZ : Z.Warmed39 s.vm) (hown : s.vm.findClass own = some m.cls) (hy1 : y.name = "<init>") (w1 : (Cond.methodLink own index y).before a0 Z = true) (w2 : (Cond.instanceMethod y).before a0 Z = true) (w3 : (Cond.initialized y.cls).before a0 Z = true) (w4 : (Cond.code y bytes maxL none).before a0 Z = true) (hy : y.cls ≠ "java/lang/invoke/MethodHandle" ∧ y.cls ≠ "java/lang/invoke/VarHandle") (hM : MetFree l y (head1 [Cond.code y bytes maxL none] ({ frames := fr, cells := 0, slots := 0, locals := lo } : Room)) (fun aa U => aa = (.ref a :: argsL).toArray ∧ Z.Warmed39 U.vm ∧ U.heap = h) (fun _ _ _ _ _ => True) (fun _ U o U' => ∃ v L, o = .returned v ∧ own_V h v U'.heap L ∧ FrameEnd U o U' L 0 0)) (hpd : parseMethodDescriptor y.desc = some ⟨ps, r⟩) (hlen : argsL.length = ps.length) (eT : T.heap = h) (hml : Ls.size = c.maxLocals) (hst : st0 = argsL.reverse ++ .ref a :: st) (hW : (st.map fun v => v.category).sum ≤ W) (hf : fr + 1 ≤ R.frames) (hl : W + (maxL + 11) + lo ≤ R.locals) (hc : cells ≤ R.cells) (hs : slots ≤ R.slots) (hd : decode c.code pc = .ok (.invokespecial index, 3)) (hq : pc + 3 = q) (K : ∀ T', Stand p l e R s m args below meth c T' locs cells slots → T'.heap = h → own_Go p e below s kc ks Q (T'.setTop (mkF m q Ls st))) : own_Go p e below s kc ks Q (T.setTop (mkF m pc Ls st0)) := by
  refine own_callC X hx hZ hown hy1 w1 w2 w3 w4 hy hM hpd hlen eT hml hst hW hf hl hc hs hd hq fun v T' L X' hQ => ?_
  obtain ⟨rfl, eh, rfl⟩ := hQ
  rw [List.append_nil] at X'
  exact K T' X' eh
theorem own_callSV (X : Stand p l e R s m args below meth c T locs cells slots) (hx : p.tables.exec = Jvm.exec) {Z : State} {a0 : Array Value} {h : Heap} {own : String} {index : Nat} {y : MethodName} {bytes : ByteArray} {maxL : Nat} {ret : Option FieldType} {W : Nat} {argsL : List Value} {fr lo : Nat} {ps : List FieldType} {r : Option FieldType} {st0 : List Value} (hZ : Z.Warmed39 s.vm) (hown : s.vm.findClass own = some m.cls) (w1 : (Cond.methodLink own index y).before a0 Z = true) (w2 : (Cond.static y).before a0 Z = true) (w3 : (Cond.initialized y.cls).before a0 Z = true) (w4 : (Cond.code y bytes maxL ret).before a0 Z = true) (hy : y.cls ≠ "java/lang/invoke/MethodHandle" ∧ y.cls ≠ "java/lang/invoke/VarHandle") (hM : MetFree l y (head1 [Cond.code y bytes maxL ret] ({ frames := fr, cells := 0, slots := 0, locals := lo } : Room)) (fun aa U => aa = argsL.toArray ∧ Z.Warmed39 U.vm ∧ U.heap = h) (fun _ _ _ _ _ => True) (fun _ U o U' => ∃ v L, o = .returned v ∧ own_V h v U'.heap L ∧ FrameEnd U o U' L 0 0)) (hpd : parseMethodDescriptor y.desc = some ⟨ps, r⟩) (hlen : argsL.length = ps.length) (eT : T.heap = h) (hml : Ls.size = c.maxLocals) (hst : st0 = argsL.reverse ++ st) (hW : (st.map fun v => v.category).sum ≤ W) (hf : fr + 1 ≤ R.frames) (hl : W + (maxL + 11) + lo ≤ R.locals) (hc : cells ≤ R.cells) (hs : slots ≤ R.slots) (hd : decode c.code pc = .ok (.invokestatic index, 3)) (hq : pc + 3 = q) (K : ∀ T', Stand p l e R s m args below meth c T' locs cells slots → T'.heap = h → own_Go p e below s kc ks Q (T'.setTop (mkF m q Ls st))) : own_Go p e below s kc ks Q (T.setTop (mkF m pc Ls st0)) := by
  refine own_callS X hx hZ hown w1 w2 w3 w4 hy hM hpd hlen eT hml hst hW hf hl hc hs hd hq fun v T' L X' hQ => ?_
  obtain ⟨rfl, eh, rfl⟩ := hQ
  rw [List.append_nil] at X'
  exact K T' X' eh
theorem own_callVV (X : Stand p l e R s m args below meth c T locs cells slots) (hx : p.tables.exec = Jvm.exec) {a : Addr} {C : String} {z : MethodName} {Z : State} {a0 : Array Value} {h : Heap} {own : String} {index : Nat} {y : MethodName} {bytes : ByteArray} {maxL : Nat} {ret : Option FieldType} {W : Nat} {argsL : List Value} {fr lo : Nat} {ps : List FieldType} {r : Option FieldType} {st0 : List Value} (hZ : Z.Warmed39 s.vm) (hown : s.vm.findClass own = some m.cls) (w1 : (Cond.methodLink own index y).before a0 Z = true) (w2 : (Cond.declares y).before a0 Z = true) (w5 : (Cond.selects y.cls y y).before a0 Z = true) (w6 : (Cond.selects C y z).before a0 Z = true) (w7 : (Cond.instanceMethod z).before a0 Z = true) (w3 : (Cond.initialized z.cls).before a0 Z = true) (w4 : (Cond.code z bytes maxL ret).before a0 Z = true) (E : Exa Z h a C) (hy : y.cls ≠ "java/lang/invoke/MethodHandle" ∧ y.cls ≠ "java/lang/invoke/VarHandle") (hM : MetFree l z (head1 [Cond.code z bytes maxL ret] ({ frames := fr, cells := 0, slots := 0, locals := lo } : Room)) (fun aa U => aa = (.ref a :: argsL).toArray ∧ Z.Warmed39 U.vm ∧ U.heap = h) (fun _ _ _ _ _ => True) (fun _ U o U' => ∃ v L, o = .returned v ∧ own_V h v U'.heap L ∧ FrameEnd U o U' L 0 0)) (hpd : parseMethodDescriptor y.desc = some ⟨ps, r⟩) (hlen : argsL.length = ps.length) (eT : T.heap = h) (hml : Ls.size = c.maxLocals) (hst : st0 = argsL.reverse ++ .ref a :: st) (hW : (st.map fun v => v.category).sum ≤ W) (hf : fr + 1 ≤ R.frames) (hl : W + (maxL + 11) + lo ≤ R.locals) (hc : cells ≤ R.cells) (hs : slots ≤ R.slots) (hd : decode c.code pc = .ok (.invokevirtual index, 3)) (hq : pc + 3 = q) (K : ∀ T', Stand p l e R s m args below meth c T' locs cells slots → T'.heap = h → own_Go p e below s kc ks Q (T'.setTop (mkF m q Ls st))) : own_Go p e below s kc ks Q (T.setTop (mkF m pc Ls st0)) := by
  refine own_callV X hx hZ hown w1 w2 w5 w6 w7 w3 w4 E hy hM hpd hlen eT hml hst hW hf hl hc hs hd hq fun v T' L X' hQ => ?_
  obtain ⟨rfl, eh, rfl⟩ := hQ
  rw [List.append_nil] at X'
  exact K T' X' eh
end OwnKit
theorem own_pn0 : plainName "java/lang/Integer" = true := by first | (simp [plainName, overriddenIn]; done) | decide +kernel
theorem own_ef4 (m : MethodId) (p1 : Int32) : entryFrame m #[.int p1] 1 = mkF m 0 #[.val (.int p1)] [] := by first | (simp [entryFrame, mkF, argsToLocals, Value.category]; done) | rfl
theorem own_d4_0 : decode jdk_33_method_49_code 0 = .ok (.iload_n 0, 1) := by decide +kernel
theorem own_d4_1 : decode jdk_33_method_49_code 1 = .ok (.iload_n 0, 1) := by decide +kernel
theorem own_d4_2 : decode jdk_33_method_49_code 2 = .ok (.iconst 1, 1) := by decide +kernel
theorem own_d4_3 : decode jdk_33_method_49_code 3 = .ok (.iushr, 1) := by decide +kernel
theorem own_d4_4 : decode jdk_33_method_49_code 4 = .ok (.ldc_w 265, 3) := by decide +kernel
theorem own_d4_7 : decode jdk_33_method_49_code 7 = .ok (.iand, 1) := by decide +kernel
theorem own_d4_8 : decode jdk_33_method_49_code 8 = .ok (.isub, 1) := by decide +kernel
theorem own_d4_9 : decode jdk_33_method_49_code 9 = .ok (.istore_n 0, 1) := by decide +kernel
theorem own_d4_10 : decode jdk_33_method_49_code 10 = .ok (.iload_n 0, 1) := by decide +kernel
theorem own_d4_11 : decode jdk_33_method_49_code 11 = .ok (.ldc_w 266, 3) := by decide +kernel
theorem own_d4_14 : decode jdk_33_method_49_code 14 = .ok (.iand, 1) := by decide +kernel
theorem own_d4_15 : decode jdk_33_method_49_code 15 = .ok (.iload_n 0, 1) := by decide +kernel
theorem own_d4_16 : decode jdk_33_method_49_code 16 = .ok (.iconst 2, 1) := by decide +kernel
theorem own_d4_17 : decode jdk_33_method_49_code 17 = .ok (.iushr, 1) := by decide +kernel
theorem own_d4_18 : decode jdk_33_method_49_code 18 = .ok (.ldc_w 266, 3) := by decide +kernel
theorem own_d4_21 : decode jdk_33_method_49_code 21 = .ok (.iand, 1) := by decide +kernel
theorem own_d4_22 : decode jdk_33_method_49_code 22 = .ok (.iadd, 1) := by decide +kernel
theorem own_d4_23 : decode jdk_33_method_49_code 23 = .ok (.istore_n 0, 1) := by decide +kernel
theorem own_d4_24 : decode jdk_33_method_49_code 24 = .ok (.iload_n 0, 1) := by decide +kernel
theorem own_d4_25 : decode jdk_33_method_49_code 25 = .ok (.iload_n 0, 1) := by decide +kernel
theorem own_d4_26 : decode jdk_33_method_49_code 26 = .ok (.iconst 4, 1) := by decide +kernel
theorem own_d4_27 : decode jdk_33_method_49_code 27 = .ok (.iushr, 1) := by decide +kernel
theorem own_d4_28 : decode jdk_33_method_49_code 28 = .ok (.iadd, 1) := by decide +kernel
theorem own_d4_29 : decode jdk_33_method_49_code 29 = .ok (.ldc_w 267, 3) := by decide +kernel
theorem own_d4_32 : decode jdk_33_method_49_code 32 = .ok (.iand, 1) := by decide +kernel
theorem own_d4_33 : decode jdk_33_method_49_code 33 = .ok (.istore_n 0, 1) := by decide +kernel
theorem own_d4_34 : decode jdk_33_method_49_code 34 = .ok (.iload_n 0, 1) := by decide +kernel
theorem own_d4_35 : decode jdk_33_method_49_code 35 = .ok (.iload_n 0, 1) := by decide +kernel
theorem own_d4_36 : decode jdk_33_method_49_code 36 = .ok (.bipush 8, 2) := by decide +kernel
theorem own_d4_38 : decode jdk_33_method_49_code 38 = .ok (.iushr, 1) := by decide +kernel
theorem own_d4_39 : decode jdk_33_method_49_code 39 = .ok (.iadd, 1) := by decide +kernel
theorem own_d4_40 : decode jdk_33_method_49_code 40 = .ok (.istore_n 0, 1) := by decide +kernel
theorem own_d4_41 : decode jdk_33_method_49_code 41 = .ok (.iload_n 0, 1) := by decide +kernel
theorem own_d4_42 : decode jdk_33_method_49_code 42 = .ok (.iload_n 0, 1) := by decide +kernel
theorem own_d4_43 : decode jdk_33_method_49_code 43 = .ok (.bipush 16, 2) := by decide +kernel
theorem own_d4_45 : decode jdk_33_method_49_code 45 = .ok (.iushr, 1) := by decide +kernel
theorem own_d4_46 : decode jdk_33_method_49_code 46 = .ok (.iadd, 1) := by decide +kernel
theorem own_d4_47 : decode jdk_33_method_49_code 47 = .ok (.istore_n 0, 1) := by decide +kernel
theorem own_d4_48 : decode jdk_33_method_49_code 48 = .ok (.iload_n 0, 1) := by decide +kernel
theorem own_d4_49 : decode jdk_33_method_49_code 49 = .ok (.bipush 63, 2) := by decide +kernel
theorem own_d4_51 : decode jdk_33_method_49_code 51 = .ok (.iand, 1) := by decide +kernel
theorem own_d4_52 : decode jdk_33_method_49_code 52 = .ok (.ireturn, 1) := by decide +kernel
def own_f4 (p1 : Int32) : Int32 := (((((((p1 - ((XT.ushr p1 (1 : Int32)) &&& (1431655765 : Int32))) &&& (858993459 : Int32)) + ((XT.ushr (p1 - ((XT.ushr p1 (1 : Int32)) &&& (1431655765 : Int32))) (2 : Int32)) &&& (858993459 : Int32))) + (XT.ushr (((p1 - ((XT.ushr p1 (1 : Int32)) &&& (1431655765 : Int32))) &&& (858993459 : Int32)) + ((XT.ushr (p1 - ((XT.ushr p1 (1 : Int32)) &&& (1431655765 : Int32))) (2 : Int32)) &&& (858993459 : Int32))) (4 : Int32))) &&& (252645135 : Int32)) + (XT.ushr (((((p1 - ((XT.ushr p1 (1 : Int32)) &&& (1431655765 : Int32))) &&& (858993459 : Int32)) + ((XT.ushr (p1 - ((XT.ushr p1 (1 : Int32)) &&& (1431655765 : Int32))) (2 : Int32)) &&& (858993459 : Int32))) + (XT.ushr (((p1 - ((XT.ushr p1 (1 : Int32)) &&& (1431655765 : Int32))) &&& (858993459 : Int32)) + ((XT.ushr (p1 - ((XT.ushr p1 (1 : Int32)) &&& (1431655765 : Int32))) (2 : Int32)) &&& (858993459 : Int32))) (4 : Int32))) &&& (252645135 : Int32)) (8 : Int32))) + (XT.ushr ((((((p1 - ((XT.ushr p1 (1 : Int32)) &&& (1431655765 : Int32))) &&& (858993459 : Int32)) + ((XT.ushr (p1 - ((XT.ushr p1 (1 : Int32)) &&& (1431655765 : Int32))) (2 : Int32)) &&& (858993459 : Int32))) + (XT.ushr (((p1 - ((XT.ushr p1 (1 : Int32)) &&& (1431655765 : Int32))) &&& (858993459 : Int32)) + ((XT.ushr (p1 - ((XT.ushr p1 (1 : Int32)) &&& (1431655765 : Int32))) (2 : Int32)) &&& (858993459 : Int32))) (4 : Int32))) &&& (252645135 : Int32)) + (XT.ushr (((((p1 - ((XT.ushr p1 (1 : Int32)) &&& (1431655765 : Int32))) &&& (858993459 : Int32)) + ((XT.ushr (p1 - ((XT.ushr p1 (1 : Int32)) &&& (1431655765 : Int32))) (2 : Int32)) &&& (858993459 : Int32))) + (XT.ushr (((p1 - ((XT.ushr p1 (1 : Int32)) &&& (1431655765 : Int32))) &&& (858993459 : Int32)) + ((XT.ushr (p1 - ((XT.ushr p1 (1 : Int32)) &&& (1431655765 : Int32))) (2 : Int32)) &&& (858993459 : Int32))) (4 : Int32))) &&& (252645135 : Int32)) (8 : Int32))) (16 : Int32))) &&& (63 : Int32)
set_option maxRecDepth 65536 in
set_option maxHeartbeats 40000000 in
theorem rm4 (l : Launch) (Z : State) (a0 : Array Value) (hw : ∀ d ∈ tables_1, d.before a0 Z = true) (ws : List Jvm.Cond) (p1 : Int32) (h0 : Heap) :
    MetFree l (⟨"java/lang/Integer", "bitCount", "(I)I"⟩ : MethodName) (head1 (Jvm.Cond.code (⟨"java/lang/Integer", "bitCount", "(I)I"⟩ : MethodName) jdk_33_method_49_code 1 (some .int) :: ws) ({ frames := 0, cells := 0, slots := 0, locals := 0 } : Room)) (fun a U => a = #[.int p1] ∧ Z.Warmed39 U.vm ∧ U.heap = h0) (fun _ _ _ _ _ => True) (fun _ U o U' => ∃ v L, o = .returned v ∧ own_P (.int (own_f4 p1)) h0 v U'.heap L ∧ FrameEnd U o U' L ({ frames := 0, cells := 0, slots := 0, locals := 0 } : Room).cells ({ frames := 0, cells := 0, slots := 0, locals := 0 } : Room).slots) := by
  refine MetFree.of_bodySF (plainFor_of_name own_pn0) hisR ?_
  intro p e s m args below meth c s₁ Bd hml0 hP hK
  obtain ⟨rfl, hZ, hh⟩ := hP
  have hx := Bd.exec
  have hby := Bd.bytes
  have hml : c.maxLocals = 1 := hml0
  have hown : s.vm.findClass "java/lang/Integer" = some m.cls := findClass_of_methodNamed Bd.named
  have hnm := (name_of_methodNamed Bd.named Bd.method).1
  have hlk : meth.locks = false := BodyLoose.notSynchronized Bd
  have X0 : Stand p l e ({ frames := 0, cells := 0, slots := 0, locals := 0 } : Room) s m #[.int p1] below meth c s₁ [] 0 0 := Stand.of_body Bd
  have e0 : s₁.heap = h0 := by rw [← hh, Bd.state]; rfl
  show own_Go p e below s 0 0 (own_P (.int (own_f4 p1)) h0) (s₁.setTop (entryFrame m #[.int p1] 1))
  rw [own_ef4]
  refine own_iloadN X0 hx (hb hby own_d4_0) (q := 1) rfl rfl ?_
  refine own_iloadN X0 hx (hb hby own_d4_1) (q := 2) rfl rfl ?_
  refine own_iconst X0 hx (v := (1 : Int32)) (hb hby own_d4_2) (q := 3) rfl rfl ?_
  refine own_iushr X0 hx (hb hby own_d4_3) (q := 4) rfl ?_
  refine own_ldcW X0 hx hZ hown (hw _ (List.mem_of_getElem? (i := 19) rfl)) (hb hby own_d4_4) (q := 7) rfl ?_
  refine own_iand X0 hx (hb hby own_d4_7) (q := 8) rfl ?_
  refine own_isub X0 hx (hb hby own_d4_8) (q := 9) rfl ?_
  refine own_istoreN (L' := #[.val (.int (p1 - ((XT.ushr p1 (1 : Int32)) &&& (1431655765 : Int32))))]) X0 hx (hb hby own_d4_9) (q := 10) rfl rfl ?_
  refine own_iloadN X0 hx (hb hby own_d4_10) (q := 11) rfl rfl ?_
  refine own_ldcW X0 hx hZ hown (hw _ (List.mem_of_getElem? (i := 20) rfl)) (hb hby own_d4_11) (q := 14) rfl ?_
  refine own_iand X0 hx (hb hby own_d4_14) (q := 15) rfl ?_
  refine own_iloadN X0 hx (hb hby own_d4_15) (q := 16) rfl rfl ?_
  refine own_iconst X0 hx (v := (2 : Int32)) (hb hby own_d4_16) (q := 17) rfl rfl ?_
  refine own_iushr X0 hx (hb hby own_d4_17) (q := 18) rfl ?_
  refine own_ldcW X0 hx hZ hown (hw _ (List.mem_of_getElem? (i := 20) rfl)) (hb hby own_d4_18) (q := 21) rfl ?_
  refine own_iand X0 hx (hb hby own_d4_21) (q := 22) rfl ?_
  refine own_iadd X0 hx (hb hby own_d4_22) (q := 23) rfl ?_
  refine own_istoreN (L' := #[.val (.int (((p1 - ((XT.ushr p1 (1 : Int32)) &&& (1431655765 : Int32))) &&& (858993459 : Int32)) + ((XT.ushr (p1 - ((XT.ushr p1 (1 : Int32)) &&& (1431655765 : Int32))) (2 : Int32)) &&& (858993459 : Int32))))]) X0 hx (hb hby own_d4_23) (q := 24) rfl rfl ?_
  refine own_iloadN X0 hx (hb hby own_d4_24) (q := 25) rfl rfl ?_
  refine own_iloadN X0 hx (hb hby own_d4_25) (q := 26) rfl rfl ?_
  refine own_iconst X0 hx (v := (4 : Int32)) (hb hby own_d4_26) (q := 27) rfl rfl ?_
  refine own_iushr X0 hx (hb hby own_d4_27) (q := 28) rfl ?_
  refine own_iadd X0 hx (hb hby own_d4_28) (q := 29) rfl ?_
  refine own_ldcW X0 hx hZ hown (hw _ (List.mem_of_getElem? (i := 21) rfl)) (hb hby own_d4_29) (q := 32) rfl ?_
  refine own_iand X0 hx (hb hby own_d4_32) (q := 33) rfl ?_
  refine own_istoreN (L' := #[.val (.int (((((p1 - ((XT.ushr p1 (1 : Int32)) &&& (1431655765 : Int32))) &&& (858993459 : Int32)) + ((XT.ushr (p1 - ((XT.ushr p1 (1 : Int32)) &&& (1431655765 : Int32))) (2 : Int32)) &&& (858993459 : Int32))) + (XT.ushr (((p1 - ((XT.ushr p1 (1 : Int32)) &&& (1431655765 : Int32))) &&& (858993459 : Int32)) + ((XT.ushr (p1 - ((XT.ushr p1 (1 : Int32)) &&& (1431655765 : Int32))) (2 : Int32)) &&& (858993459 : Int32))) (4 : Int32))) &&& (252645135 : Int32)))]) X0 hx (hb hby own_d4_33) (q := 34) rfl rfl ?_
  refine own_iloadN X0 hx (hb hby own_d4_34) (q := 35) rfl rfl ?_
  refine own_iloadN X0 hx (hb hby own_d4_35) (q := 36) rfl rfl ?_
  refine own_bipush X0 hx (v := (8 : Int32)) (hb hby own_d4_36) (q := 38) rfl rfl ?_
  refine own_iushr X0 hx (hb hby own_d4_38) (q := 39) rfl ?_
  refine own_iadd X0 hx (hb hby own_d4_39) (q := 40) rfl ?_
  refine own_istoreN (L' := #[.val (.int ((((((p1 - ((XT.ushr p1 (1 : Int32)) &&& (1431655765 : Int32))) &&& (858993459 : Int32)) + ((XT.ushr (p1 - ((XT.ushr p1 (1 : Int32)) &&& (1431655765 : Int32))) (2 : Int32)) &&& (858993459 : Int32))) + (XT.ushr (((p1 - ((XT.ushr p1 (1 : Int32)) &&& (1431655765 : Int32))) &&& (858993459 : Int32)) + ((XT.ushr (p1 - ((XT.ushr p1 (1 : Int32)) &&& (1431655765 : Int32))) (2 : Int32)) &&& (858993459 : Int32))) (4 : Int32))) &&& (252645135 : Int32)) + (XT.ushr (((((p1 - ((XT.ushr p1 (1 : Int32)) &&& (1431655765 : Int32))) &&& (858993459 : Int32)) + ((XT.ushr (p1 - ((XT.ushr p1 (1 : Int32)) &&& (1431655765 : Int32))) (2 : Int32)) &&& (858993459 : Int32))) + (XT.ushr (((p1 - ((XT.ushr p1 (1 : Int32)) &&& (1431655765 : Int32))) &&& (858993459 : Int32)) + ((XT.ushr (p1 - ((XT.ushr p1 (1 : Int32)) &&& (1431655765 : Int32))) (2 : Int32)) &&& (858993459 : Int32))) (4 : Int32))) &&& (252645135 : Int32)) (8 : Int32))))]) X0 hx (hb hby own_d4_40) (q := 41) rfl rfl ?_
  refine own_iloadN X0 hx (hb hby own_d4_41) (q := 42) rfl rfl ?_
  refine own_iloadN X0 hx (hb hby own_d4_42) (q := 43) rfl rfl ?_
  refine own_bipush X0 hx (v := (16 : Int32)) (hb hby own_d4_43) (q := 45) rfl rfl ?_
  refine own_iushr X0 hx (hb hby own_d4_45) (q := 46) rfl ?_
  refine own_iadd X0 hx (hb hby own_d4_46) (q := 47) rfl ?_
  refine own_istoreN (L' := #[.val (.int (((((((p1 - ((XT.ushr p1 (1 : Int32)) &&& (1431655765 : Int32))) &&& (858993459 : Int32)) + ((XT.ushr (p1 - ((XT.ushr p1 (1 : Int32)) &&& (1431655765 : Int32))) (2 : Int32)) &&& (858993459 : Int32))) + (XT.ushr (((p1 - ((XT.ushr p1 (1 : Int32)) &&& (1431655765 : Int32))) &&& (858993459 : Int32)) + ((XT.ushr (p1 - ((XT.ushr p1 (1 : Int32)) &&& (1431655765 : Int32))) (2 : Int32)) &&& (858993459 : Int32))) (4 : Int32))) &&& (252645135 : Int32)) + (XT.ushr (((((p1 - ((XT.ushr p1 (1 : Int32)) &&& (1431655765 : Int32))) &&& (858993459 : Int32)) + ((XT.ushr (p1 - ((XT.ushr p1 (1 : Int32)) &&& (1431655765 : Int32))) (2 : Int32)) &&& (858993459 : Int32))) + (XT.ushr (((p1 - ((XT.ushr p1 (1 : Int32)) &&& (1431655765 : Int32))) &&& (858993459 : Int32)) + ((XT.ushr (p1 - ((XT.ushr p1 (1 : Int32)) &&& (1431655765 : Int32))) (2 : Int32)) &&& (858993459 : Int32))) (4 : Int32))) &&& (252645135 : Int32)) (8 : Int32))) + (XT.ushr ((((((p1 - ((XT.ushr p1 (1 : Int32)) &&& (1431655765 : Int32))) &&& (858993459 : Int32)) + ((XT.ushr (p1 - ((XT.ushr p1 (1 : Int32)) &&& (1431655765 : Int32))) (2 : Int32)) &&& (858993459 : Int32))) + (XT.ushr (((p1 - ((XT.ushr p1 (1 : Int32)) &&& (1431655765 : Int32))) &&& (858993459 : Int32)) + ((XT.ushr (p1 - ((XT.ushr p1 (1 : Int32)) &&& (1431655765 : Int32))) (2 : Int32)) &&& (858993459 : Int32))) (4 : Int32))) &&& (252645135 : Int32)) + (XT.ushr (((((p1 - ((XT.ushr p1 (1 : Int32)) &&& (1431655765 : Int32))) &&& (858993459 : Int32)) + ((XT.ushr (p1 - ((XT.ushr p1 (1 : Int32)) &&& (1431655765 : Int32))) (2 : Int32)) &&& (858993459 : Int32))) + (XT.ushr (((p1 - ((XT.ushr p1 (1 : Int32)) &&& (1431655765 : Int32))) &&& (858993459 : Int32)) + ((XT.ushr (p1 - ((XT.ushr p1 (1 : Int32)) &&& (1431655765 : Int32))) (2 : Int32)) &&& (858993459 : Int32))) (4 : Int32))) &&& (252645135 : Int32)) (8 : Int32))) (16 : Int32))))]) X0 hx (hb hby own_d4_47) (q := 48) rfl rfl ?_
  refine own_iloadN X0 hx (hb hby own_d4_48) (q := 49) rfl rfl ?_
  refine own_bipush X0 hx (v := (63 : Int32)) (hb hby own_d4_49) (q := 51) rfl rfl ?_
  refine own_iand X0 hx (hb hby own_d4_51) (q := 52) rfl ?_
  refine own_retI X0 hx hlk Bd.returns (hb hby own_d4_52) ?_ (by decide) (by decide)
  have r : own_f4 p1 = (((((((p1 - ((XT.ushr p1 (1 : Int32)) &&& (1431655765 : Int32))) &&& (858993459 : Int32)) + ((XT.ushr (p1 - ((XT.ushr p1 (1 : Int32)) &&& (1431655765 : Int32))) (2 : Int32)) &&& (858993459 : Int32))) + (XT.ushr (((p1 - ((XT.ushr p1 (1 : Int32)) &&& (1431655765 : Int32))) &&& (858993459 : Int32)) + ((XT.ushr (p1 - ((XT.ushr p1 (1 : Int32)) &&& (1431655765 : Int32))) (2 : Int32)) &&& (858993459 : Int32))) (4 : Int32))) &&& (252645135 : Int32)) + (XT.ushr (((((p1 - ((XT.ushr p1 (1 : Int32)) &&& (1431655765 : Int32))) &&& (858993459 : Int32)) + ((XT.ushr (p1 - ((XT.ushr p1 (1 : Int32)) &&& (1431655765 : Int32))) (2 : Int32)) &&& (858993459 : Int32))) + (XT.ushr (((p1 - ((XT.ushr p1 (1 : Int32)) &&& (1431655765 : Int32))) &&& (858993459 : Int32)) + ((XT.ushr (p1 - ((XT.ushr p1 (1 : Int32)) &&& (1431655765 : Int32))) (2 : Int32)) &&& (858993459 : Int32))) (4 : Int32))) &&& (252645135 : Int32)) (8 : Int32))) + (XT.ushr ((((((p1 - ((XT.ushr p1 (1 : Int32)) &&& (1431655765 : Int32))) &&& (858993459 : Int32)) + ((XT.ushr (p1 - ((XT.ushr p1 (1 : Int32)) &&& (1431655765 : Int32))) (2 : Int32)) &&& (858993459 : Int32))) + (XT.ushr (((p1 - ((XT.ushr p1 (1 : Int32)) &&& (1431655765 : Int32))) &&& (858993459 : Int32)) + ((XT.ushr (p1 - ((XT.ushr p1 (1 : Int32)) &&& (1431655765 : Int32))) (2 : Int32)) &&& (858993459 : Int32))) (4 : Int32))) &&& (252645135 : Int32)) + (XT.ushr (((((p1 - ((XT.ushr p1 (1 : Int32)) &&& (1431655765 : Int32))) &&& (858993459 : Int32)) + ((XT.ushr (p1 - ((XT.ushr p1 (1 : Int32)) &&& (1431655765 : Int32))) (2 : Int32)) &&& (858993459 : Int32))) + (XT.ushr (((p1 - ((XT.ushr p1 (1 : Int32)) &&& (1431655765 : Int32))) &&& (858993459 : Int32)) + ((XT.ushr (p1 - ((XT.ushr p1 (1 : Int32)) &&& (1431655765 : Int32))) (2 : Int32)) &&& (858993459 : Int32))) (4 : Int32))) &&& (252645135 : Int32)) (8 : Int32))) (16 : Int32))) &&& (63 : Int32) := by rw [own_f4]
  exact ⟨by rw [r] <;> rfl, e0, rfl⟩
def own_fac (f : Int32) : Prop := f = 1 ∨ f = 2 ∨ f = 4 ∨ f = 8 ∨ f = 16 ∨ f = 32 ∨ f = 64 ∨ f = 128 ∨ f = 256 ∨ f = 512 ∨ f = 1024 ∨ f = 2048 ∨ f = 4096 ∨ f = 8192 ∨ f = 16384 ∨ f = 32768 ∨ f = 65536
theorem own_facP {f : Int32} (h : own_fac f) : ¬ f < 1 ∧ ¬ (65536 : Int32) < f ∧ own_f4 f = 1 ∧ 0 ≤ (f - 1).toInt ∧ (f - 1).toInt < f.toInt := by
  unfold own_fac at h
  rcases h with rfl | rfl | rfl | rfl | rfl | rfl | rfl | rfl | rfl | rfl | rfl | rfl | rfl | rfl | rfl | rfl | rfl <;> exact ⟨by decide, by decide, by decide, by decide, by decide⟩
theorem own_facS (x : Int32) (h0 : 0 ≤ x.toInt) (h : x.toInt ≤ 16) : own_fac (1 <<< (x &&& 31)) := by
  have e : x = 0 ∨ x = 1 ∨ x = 2 ∨ x = 3 ∨ x = 4 ∨ x = 5 ∨ x = 6 ∨ x = 7 ∨ x = 8 ∨ x = 9 ∨ x = 10 ∨ x = 11 ∨ x = 12 ∨ x = 13 ∨ x = 14 ∨ x = 15 ∨ x = 16 := by
    simp only [← Int32.toInt_inj, Int32.reduceToInt]; omega
  unfold own_fac
  rcases e with rfl | rfl | rfl | rfl | rfl | rfl | rfl | rfl | rfl | rfl | rfl | rfl | rfl | rfl | rfl | rfl | rfl <;> decide
theorem own_bkt {f : Int32} (h : own_fac f) (b : Int32) : ¬ (b &&& (f - 1)) < 0 ∧ (b &&& (f - 1)) < f := by
  obtain ⟨-, -, -, h4, h5⟩ := own_facP h
  have := c_and b (f - 1) h4
  simp only [Int32.lt_iff_toInt_lt, Int32.reduceToInt]; omega
theorem own_nn (x : Int32) : ¬ (x &&& (2147483647 : Int32)) < 0 := by
  have h := c_mask x 2147483647 31 (by decide) (by decide)
  rw [Int32.lt_iff_toInt_lt, h]; simp only [Int32.reduceToInt]; omega
theorem own_fac1 (x : Int32) : own_fac (1 <<< (((x &&& (2147483647 : Int32)) % 17) &&& 31)) := by
  have h := c_mask x 2147483647 31 (by decide) (by decide)
  have h2 := (c_irem (x &&& (2147483647 : Int32)) 17 17 (by decide)).1 (by rw [h]; omega)
  exact own_facS _ (by rw [h2]; omega) (by rw [h2]; omega)
theorem own_fac2 (x : Int32) : own_fac (1 <<< (((XT.ushr x 8) % 17) &&& 31)) := by
  have h : (XT.ushr x 8).toInt = (x.toInt % 4294967296) / (2 ^ 8 : Nat) := c_iushr x 8 8 (by decide) (by decide)
  have h2 := (c_irem (XT.ushr x 8) 17 17 (by decide)).1 (by rw [h]; omega)
  exact own_facS _ (by rw [h2]; omega) (by rw [h2]; omega)
theorem own_pd0 : parseMethodDescriptor "(I)I" = some ⟨[.int], some .int⟩ := by decide +kernel
theorem own_pn2 : plainName "com/example/keys_across_workers/keysacrossworkers/routing/KeyBuckets" = true := by first | (simp [plainName, overriddenIn]; done) | decide +kernel
theorem own_ef3 (m : MethodId) (p1 : Int32) : entryFrame m #[.int p1] 1 = mkF m 0 #[.val (.int p1)] [] := by first | (simp [entryFrame, mkF, argsToLocals, Value.category]; done) | rfl
theorem own_d3_0 : decode prog_20_method_2_code 0 = .ok (.iload_n 0, 1) := by decide +kernel
theorem own_d3_1 : decode prog_20_method_2_code 1 = .ok (.iconst 1, 1) := by decide +kernel
theorem own_d3_2 : decode prog_20_method_2_code 2 = .ok (.if_icmp .lt 17, 3) := by decide +kernel
theorem own_d3_5 : decode prog_20_method_2_code 5 = .ok (.iload_n 0, 1) := by decide +kernel
theorem own_d3_6 : decode prog_20_method_2_code 6 = .ok (.ldc 27, 2) := by decide +kernel
theorem own_d3_8 : decode prog_20_method_2_code 8 = .ok (.if_icmp .gt 11, 3) := by decide +kernel
theorem own_d3_11 : decode prog_20_method_2_code 11 = .ok (.iload_n 0, 1) := by decide +kernel
theorem own_d3_12 : decode prog_20_method_2_code 12 = .ok (.invokestatic 28, 3) := by decide +kernel
theorem own_d3_15 : decode prog_20_method_2_code 15 = .ok (.iconst 1, 1) := by decide +kernel
theorem own_d3_16 : decode prog_20_method_2_code 16 = .ok (.if_icmp .eq 17, 3) := by decide +kernel
theorem own_d3_33 : decode prog_20_method_2_code 33 = .ok (.return_, 1) := by decide +kernel
set_option maxRecDepth 65536 in
set_option maxHeartbeats 40000000 in
theorem rm3 (l : Launch) (Z : State) (a0 : Array Value) (hw : ∀ d ∈ tables_1, d.before a0 Z = true) (ws : List Jvm.Cond) (p1 : Int32) (h0 : Heap) (P1 : own_fac p1) :
    MetFree l (⟨"com/example/keys_across_workers/keysacrossworkers/routing/KeyBuckets", "checkFactor", "(I)V"⟩ : MethodName) (head1 (Jvm.Cond.code (⟨"com/example/keys_across_workers/keysacrossworkers/routing/KeyBuckets", "checkFactor", "(I)V"⟩ : MethodName) prog_20_method_2_code 1 none :: ws) ({ frames := 1, cells := 0, slots := 0, locals := 12 } : Room)) (fun a U => a = #[.int p1] ∧ Z.Warmed39 U.vm ∧ U.heap = h0) (fun _ _ _ _ _ => True) (fun _ U o U' => ∃ v L, o = .returned v ∧ own_V h0 v U'.heap L ∧ FrameEnd U o U' L ({ frames := 1, cells := 0, slots := 0, locals := 12 } : Room).cells ({ frames := 1, cells := 0, slots := 0, locals := 12 } : Room).slots) := by
  refine MetFree.of_bodySF (plainFor_of_name own_pn2) hisR ?_
  intro p e s m args below meth c s₁ Bd hml0 hP hK
  obtain ⟨rfl, hZ, hh⟩ := hP
  have hx := Bd.exec
  have hby := Bd.bytes
  have hml : c.maxLocals = 1 := hml0
  have hown : s.vm.findClass "com/example/keys_across_workers/keysacrossworkers/routing/KeyBuckets" = some m.cls := findClass_of_methodNamed Bd.named
  have hnm := (name_of_methodNamed Bd.named Bd.method).1
  have hlk : meth.locks = false := BodyLoose.notSynchronized Bd
  have X0 : Stand p l e ({ frames := 1, cells := 0, slots := 0, locals := 12 } : Room) s m #[.int p1] below meth c s₁ [] 0 0 := Stand.of_body Bd
  have e0 : s₁.heap = h0 := by rw [← hh, Bd.state]; rfl
  show own_Go p e below s 0 0 (own_V h0) (s₁.setTop (entryFrame m #[.int p1] 1))
  rw [own_ef3]
  refine own_iloadN X0 hx (hb hby own_d3_0) (q := 1) rfl rfl ?_
  refine own_iconst X0 hx (v := (1 : Int32)) (hb hby own_d3_1) (q := 2) rfl rfl ?_
  refine own_icmpP X0 hx (hb hby own_d3_2) (cd := .lt) (x := p1) (y := (1 : Int32)) (pt := 19) (q := 5) (by decide) (by decide) rfl rfl (fun h => False.elim (((own_facP P1).1 : ¬ (p1 < (1 : Int32))) h)) (fun _ => ?_)
  refine own_iloadN X0 hx (hb hby own_d3_5) (q := 6) rfl rfl ?_
  refine own_ldc X0 hx hZ hown (hw _ (List.mem_of_getElem? (i := 14) rfl)) (hb hby own_d3_6) (q := 8) rfl ?_
  refine own_icmpP X0 hx (hb hby own_d3_8) (cd := .gt) (x := p1) (y := (65536 : Int32)) (pt := 19) (q := 11) (by decide) (by decide) rfl rfl (fun h => False.elim (((own_facP P1).2.1 : ¬ ((65536 : Int32) < p1)) h)) (fun _ => ?_)
  refine own_iloadN X0 hx (hb hby own_d3_11) (q := 12) rfl rfl ?_
  refine own_callSP X0 hx hZ hown (hw _ (List.mem_of_getElem? (i := 15) rfl)) (hw _ (List.mem_of_getElem? (i := 16) rfl)) (hw _ (List.mem_of_getElem? (i := 17) rfl)) (hw _ (List.mem_of_getElem? (i := 18) rfl)) (by decide) (rm4 l Z a0 hw [] p1 h0) own_pd0 rfl e0 (by rw [hml]; rfl) (argsL := [.int p1]) (st := []) rfl (W := 0) (Nat.le_of_eq rfl) (by decide) (by decide) (by decide) (by decide) (hb hby own_d3_12) (q := 15) rfl (fun T1 X2 e3 => ?_)
  refine own_iconst X2 hx (v := (1 : Int32)) (hb hby own_d3_15) (q := 16) rfl rfl ?_
  refine own_icmpP X2 hx (hb hby own_d3_16) (cd := .eq) (x := own_f4 p1) (y := (1 : Int32)) (pt := 33) (q := 19) (by decide) (by decide) rfl rfl (fun _ => ?_) (fun h => False.elim (h ((own_facP P1).2.2.1 : (own_f4 p1) = (1 : Int32))))
  refine own_retV X2 hx hlk (rest := []) Bd.returns (hb hby own_d3_33) ?_ (by decide) (by decide)
  exact ⟨rfl, e3, rfl⟩
theorem own_pd1 : parseMethodDescriptor "(I)V" = some ⟨[.int], none⟩ := by decide +kernel
theorem own_pn4 : plainName "com/example/keys_across_workers/keysacrossworkers/elasticity/VirtualTask" = true := by first | (simp [plainName, overriddenIn]; done) | decide +kernel
theorem own_ef1 (m : MethodId) (a1 : Addr) (p2 : Int32) (p3 : Int32) (p4 : Int32) : entryFrame m #[.ref a1, .int p2, .int p3, .int p4] 4 = mkF m 0 #[.val (.ref a1), .val (.int p2), .val (.int p3), .val (.int p4)] [] := by first | (simp [entryFrame, mkF, argsToLocals, Value.category]; done) | rfl
theorem own_d1_0 : decode prog_10_method_1_code 0 = .ok (.aload_n 0, 1) := by decide +kernel
theorem own_d1_1 : decode prog_10_method_1_code 1 = .ok (.invokespecial 1, 3) := by decide +kernel
theorem own_d1_4 : decode prog_10_method_1_code 4 = .ok (.iload_n 1, 1) := by decide +kernel
theorem own_d1_5 : decode prog_10_method_1_code 5 = .ok (.ifCond .ge 17, 3) := by decide +kernel
theorem own_d1_22 : decode prog_10_method_1_code 22 = .ok (.iload_n 3, 1) := by decide +kernel
theorem own_d1_23 : decode prog_10_method_1_code 23 = .ok (.invokestatic 16, 3) := by decide +kernel
theorem own_d1_26 : decode prog_10_method_1_code 26 = .ok (.iload_n 2, 1) := by decide +kernel
theorem own_d1_27 : decode prog_10_method_1_code 27 = .ok (.ifCond .lt 8, 3) := by decide +kernel
theorem own_d1_30 : decode prog_10_method_1_code 30 = .ok (.iload_n 2, 1) := by decide +kernel
theorem own_d1_31 : decode prog_10_method_1_code 31 = .ok (.iload_n 3, 1) := by decide +kernel
theorem own_d1_32 : decode prog_10_method_1_code 32 = .ok (.if_icmp .lt 21, 3) := by decide +kernel
theorem own_d1_53 : decode prog_10_method_1_code 53 = .ok (.aload_n 0, 1) := by decide +kernel
theorem own_d1_54 : decode prog_10_method_1_code 54 = .ok (.iload_n 1, 1) := by decide +kernel
theorem own_d1_55 : decode prog_10_method_1_code 55 = .ok (.putfield 25, 3) := by decide +kernel
theorem own_d1_58 : decode prog_10_method_1_code 58 = .ok (.aload_n 0, 1) := by decide +kernel
theorem own_d1_59 : decode prog_10_method_1_code 59 = .ok (.iload_n 2, 1) := by decide +kernel
theorem own_d1_60 : decode prog_10_method_1_code 60 = .ok (.putfield 31, 3) := by decide +kernel
theorem own_d1_63 : decode prog_10_method_1_code 63 = .ok (.aload_n 0, 1) := by decide +kernel
theorem own_d1_64 : decode prog_10_method_1_code 64 = .ok (.iload_n 3, 1) := by decide +kernel
theorem own_d1_65 : decode prog_10_method_1_code 65 = .ok (.putfield 34, 3) := by decide +kernel
theorem own_d1_68 : decode prog_10_method_1_code 68 = .ok (.return_, 1) := by decide +kernel
def own_Q1 (Z : State) (a1 : Addr) (p2 : Int32) (p3 : Int32) (p4 : Int32) (h0 : Heap) (n0 : Nat) (v : Option Value) (h : Heap) (L : List Loc) : Prop := v = none ∧ Fr n0 L ∧ Keep h0 h [a1] ∧ Exa Z h a1 "com/example/keys_across_workers/keysacrossworkers/elasticity/VirtualTask" ∧ Fld Z h a1 "com/example/keys_across_workers/keysacrossworkers/elasticity/VirtualTask" "partition" "I" (.int p2) ∧ Fld Z h a1 "com/example/keys_across_workers/keysacrossworkers/elasticity/VirtualTask" "bucket" "I" (.int p3) ∧ Fld Z h a1 "com/example/keys_across_workers/keysacrossworkers/elasticity/VirtualTask" "factor" "I" (.int p4)
set_option maxRecDepth 65536 in
set_option maxHeartbeats 40000000 in
theorem rm1 (l : Launch) (Z : State) (a0 : Array Value) (hw : ∀ d ∈ tables_1, d.before a0 Z = true) (ws : List Jvm.Cond) (a1 : Addr) (p2 : Int32) (p3 : Int32) (p4 : Int32) (h0 : Heap) (n0 : Nat) (E0p : Exa Z h0 a1 "com/example/keys_across_workers/keysacrossworkers/elasticity/VirtualTask") (F1p : Fld Z h0 a1 "com/example/keys_across_workers/keysacrossworkers/elasticity/VirtualTask" "partition" "I" (.int (0 : Int32))) (F2p : Fld Z h0 a1 "com/example/keys_across_workers/keysacrossworkers/elasticity/VirtualTask" "bucket" "I" (.int (0 : Int32))) (F3p : Fld Z h0 a1 "com/example/keys_across_workers/keysacrossworkers/elasticity/VirtualTask" "factor" "I" (.int (0 : Int32))) (G_a1 : n0 ≤ a1) (P1 : ¬ p2 < 0) (P2 : own_fac p4) (P3 : ¬ p3 < 0) (P4 : p3 < p4) :
    MetFree l (⟨"com/example/keys_across_workers/keysacrossworkers/elasticity/VirtualTask", "<init>", "(III)V"⟩ : MethodName) (head1 (Jvm.Cond.code (⟨"com/example/keys_across_workers/keysacrossworkers/elasticity/VirtualTask", "<init>", "(III)V"⟩ : MethodName) prog_10_method_1_code 4 none :: ws) ({ frames := 2, cells := 0, slots := 0, locals := 24 } : Room)) (fun a U => a = #[.ref a1, .int p2, .int p3, .int p4] ∧ Z.Warmed39 U.vm ∧ U.heap = h0) (fun _ _ _ _ _ => True) (fun _ U o U' => ∃ v L, o = .returned v ∧ own_Q1 Z a1 p2 p3 p4 h0 n0 v U'.heap L ∧ FrameEnd U o U' L ({ frames := 2, cells := 0, slots := 0, locals := 24 } : Room).cells ({ frames := 2, cells := 0, slots := 0, locals := 24 } : Room).slots) := by
  refine MetFree.of_bodySF (plainFor_of_name own_pn4) hisR ?_
  intro p e s m args below meth c s₁ Bd hml0 hP hK
  obtain ⟨rfl, hZ, hh⟩ := hP
  have hx := Bd.exec
  have hby := Bd.bytes
  have hml : c.maxLocals = 4 := hml0
  have hown : s.vm.findClass "com/example/keys_across_workers/keysacrossworkers/elasticity/VirtualTask" = some m.cls := findClass_of_methodNamed Bd.named
  have hnm := (name_of_methodNamed Bd.named Bd.method).1
  have hlk : meth.locks = false := BodyLoose.notSynchronized Bd
  have X0 : Stand p l e ({ frames := 2, cells := 0, slots := 0, locals := 24 } : Room) s m #[.ref a1, .int p2, .int p3, .int p4] below meth c s₁ [] 0 0 := Stand.of_body Bd
  have e0 : s₁.heap = h0 := by rw [← hh, Bd.state]; rfl
  have N0 := Fr.nil n0
  have K0 := Keep.refl h0 [a1]
  show own_Go p e below s 0 0 (own_Q1 Z a1 p2 p3 p4 h0 n0) (s₁.setTop (entryFrame m #[.ref a1, .int p2, .int p3, .int p4] 4))
  rw [own_ef1]
  refine own_aloadN X0 hx (hb hby own_d1_0) (q := 1) rfl rfl rfl ?_
  refine own_initO X0 hx hZ hown (hw _ (List.mem_of_getElem? (i := 7) rfl)) (hw _ (List.mem_of_getElem? (i := 8) rfl)) (hw _ (List.mem_of_getElem? (i := 9) rfl)) e0 (by rw [hml]; rfl) (by decide) (W := 0) (Nat.le_of_eq rfl) (by decide) (hb hby own_d1_1) (q := 4) rfl (fun T4 X5 e6 => ?_)
  refine own_iloadN X5 hx (hb hby own_d1_4) (q := 5) rfl rfl ?_
  refine own_if0M X5 hx (hb hby own_d1_5) (cd := .ge) (x := p2) (pt := 22) (q := 8) (by decide) (by decide) rfl rfl (fun _ => ?_) (fun h => False.elim ((P1 : ¬ (p2 < (0 : Int32))) h))
  refine own_iloadN X5 hx (hb hby own_d1_22) (q := 23) rfl rfl ?_
  refine own_callSV X5 hx hZ hown (hw _ (List.mem_of_getElem? (i := 10) rfl)) (hw _ (List.mem_of_getElem? (i := 11) rfl)) (hw _ (List.mem_of_getElem? (i := 12) rfl)) (hw _ (List.mem_of_getElem? (i := 13) rfl)) (by decide) (rm3 l Z a0 hw [] p4 h0 P2) own_pd1 rfl e6 (by rw [hml]; rfl) (argsL := [.int p4]) (st := []) rfl (W := 0) (Nat.le_of_eq rfl) (by decide) (by decide) (by decide) (by decide) (hb hby own_d1_23) (q := 26) rfl (fun T10 X11 e12 => ?_)
  refine own_iloadN X11 hx (hb hby own_d1_26) (q := 27) rfl rfl ?_
  refine own_if0P X11 hx (hb hby own_d1_27) (cd := .lt) (x := p3) (pt := 35) (q := 30) (by decide) (by decide) rfl rfl (fun h => False.elim ((P3 : ¬ (p3 < (0 : Int32))) h)) (fun _ => ?_)
  refine own_iloadN X11 hx (hb hby own_d1_30) (q := 31) rfl rfl ?_
  refine own_iloadN X11 hx (hb hby own_d1_31) (q := 32) rfl rfl ?_
  refine own_icmpP X11 hx (hb hby own_d1_32) (cd := .lt) (x := p3) (y := p4) (pt := 53) (q := 35) (by decide) (by decide) rfl rfl (fun _ => ?_) (fun h => False.elim (h (P4 : p3 < p4)))
  refine own_aloadN X11 hx (hb hby own_d1_53) (q := 54) rfl rfl rfl ?_
  refine own_iloadN X11 hx (hb hby own_d1_54) (q := 55) rfl rfl ?_
  refine own_putF X11 hx hZ hown (host := "") (Or.inl (hw _ (List.mem_of_getElem? (i := 22) rfl))) Via.refl e12 F1p E0p (Or.inr ⟨(hw _ (List.mem_of_getElem? (i := 23) rfl)), rfl, hnm⟩) (hw _ (List.mem_of_getElem? (i := 2) rfl)) (ty := .int) (by decide) rfl rfl (hb hby own_d1_55) (q := 58) rfl (fun T13 h16 X14 e15 W17 => ?_)
  have E18 := Exa.wr W17 E0p
  have F19 := Fld.same W17 F1p
  have F20 := Fld.other W17 F2p (Or.inr (slot_ne (C := "com/example/keys_across_workers/keysacrossworkers/elasticity/VirtualTask") (Or.inr (hw _ (List.mem_of_getElem? (i := 25) rfl))) (Or.inr (hw _ (List.mem_of_getElem? (i := 23) rfl))) (by decide) (t := .int) (t' := .int) (by decide) (by decide)))
  have F21 := Fld.other W17 F3p (Or.inr (slot_ne (C := "com/example/keys_across_workers/keysacrossworkers/elasticity/VirtualTask") (Or.inr (hw _ (List.mem_of_getElem? (i := 27) rfl))) (Or.inr (hw _ (List.mem_of_getElem? (i := 23) rfl))) (by decide) (t := .int) (t' := .int) (by decide) (by decide)))
  have K22 := K0.wr W17 (Or.inl (List.mem_of_getElem? (i := 0) rfl))
  have N23 := Fr.snoc X14 N0 G_a1
  refine own_aloadN X14 hx (hb hby own_d1_58) (q := 59) rfl rfl rfl ?_
  refine own_iloadN X14 hx (hb hby own_d1_59) (q := 60) rfl rfl ?_
  refine own_putF X14 hx hZ hown (host := "") (Or.inl (hw _ (List.mem_of_getElem? (i := 24) rfl))) Via.refl e15 F20 E18 (Or.inr ⟨(hw _ (List.mem_of_getElem? (i := 25) rfl)), rfl, hnm⟩) (hw _ (List.mem_of_getElem? (i := 2) rfl)) (ty := .int) (by decide) rfl rfl (hb hby own_d1_60) (q := 63) rfl (fun T24 h27 X25 e26 W28 => ?_)
  have E29 := Exa.wr W28 E18
  have F30 := Fld.other W28 F19 (Or.inr (slot_ne (C := "com/example/keys_across_workers/keysacrossworkers/elasticity/VirtualTask") (Or.inr (hw _ (List.mem_of_getElem? (i := 23) rfl))) (Or.inr (hw _ (List.mem_of_getElem? (i := 25) rfl))) (by decide) (t := .int) (t' := .int) (by decide) (by decide)))
  have F31 := Fld.same W28 F20
  have F32 := Fld.other W28 F21 (Or.inr (slot_ne (C := "com/example/keys_across_workers/keysacrossworkers/elasticity/VirtualTask") (Or.inr (hw _ (List.mem_of_getElem? (i := 27) rfl))) (Or.inr (hw _ (List.mem_of_getElem? (i := 25) rfl))) (by decide) (t := .int) (t' := .int) (by decide) (by decide)))
  have K33 := K22.wr W28 (Or.inl (List.mem_of_getElem? (i := 0) rfl))
  have N34 := Fr.snoc X25 N23 G_a1
  refine own_aloadN X25 hx (hb hby own_d1_63) (q := 64) rfl rfl rfl ?_
  refine own_iloadN X25 hx (hb hby own_d1_64) (q := 65) rfl rfl ?_
  refine own_putF X25 hx hZ hown (host := "") (Or.inl (hw _ (List.mem_of_getElem? (i := 26) rfl))) Via.refl e26 F32 E29 (Or.inr ⟨(hw _ (List.mem_of_getElem? (i := 27) rfl)), rfl, hnm⟩) (hw _ (List.mem_of_getElem? (i := 2) rfl)) (ty := .int) (by decide) rfl rfl (hb hby own_d1_65) (q := 68) rfl (fun T35 h38 X36 e37 W39 => ?_)
  have E40 := Exa.wr W39 E29
  have F41 := Fld.other W39 F30 (Or.inr (slot_ne (C := "com/example/keys_across_workers/keysacrossworkers/elasticity/VirtualTask") (Or.inr (hw _ (List.mem_of_getElem? (i := 23) rfl))) (Or.inr (hw _ (List.mem_of_getElem? (i := 27) rfl))) (by decide) (t := .int) (t' := .int) (by decide) (by decide)))
  have F42 := Fld.other W39 F31 (Or.inr (slot_ne (C := "com/example/keys_across_workers/keysacrossworkers/elasticity/VirtualTask") (Or.inr (hw _ (List.mem_of_getElem? (i := 25) rfl))) (Or.inr (hw _ (List.mem_of_getElem? (i := 27) rfl))) (by decide) (t := .int) (t' := .int) (by decide) (by decide)))
  have F43 := Fld.same W39 F32
  have K44 := K33.wr W39 (Or.inl (List.mem_of_getElem? (i := 0) rfl))
  have N45 := Fr.snoc X36 N34 G_a1
  refine own_retV X36 hx hlk (rest := []) Bd.returns (hb hby own_d1_68) ?_ (by decide) (by decide)
  show own_Q1 Z a1 p2 p3 p4 h0 n0 _ T35.heap _
  rw [e37]
  exact ⟨rfl, N45, K44, E40, F41, F42, F43⟩
theorem own_ef5 (m : MethodId) (a1 : Addr) (a2 : Addr) : entryFrame m #[.ref a1, .ref a2] 3 = mkF m 0 #[.val (.ref a1), .val (.ref a2), .unset] [] := by first | (simp [entryFrame, mkF, argsToLocals, Value.category]; done) | rfl
theorem own_d5_0 : decode prog_10_method_7_code 0 = .ok (.aload_n 1, 1) := by decide +kernel
theorem own_d5_1 : decode prog_10_method_7_code 1 = .ok (.instanceof 26, 3) := by decide +kernel
theorem own_d5_4 : decode prog_10_method_7_code 4 = .ok (.ifCond .ne 5, 3) := by decide +kernel
theorem own_d5_9 : decode prog_10_method_7_code 9 = .ok (.aload_n 1, 1) := by decide +kernel
theorem own_d5_10 : decode prog_10_method_7_code 10 = .ok (.checkcast 26, 3) := by decide +kernel
theorem own_d5_13 : decode prog_10_method_7_code 13 = .ok (.astore_n 2, 1) := by decide +kernel
theorem own_d5_14 : decode prog_10_method_7_code 14 = .ok (.aload_n 0, 1) := by decide +kernel
theorem own_d5_15 : decode prog_10_method_7_code 15 = .ok (.getfield 25, 3) := by decide +kernel
theorem own_d5_18 : decode prog_10_method_7_code 18 = .ok (.aload_n 2, 1) := by decide +kernel
theorem own_d5_19 : decode prog_10_method_7_code 19 = .ok (.getfield 25, 3) := by decide +kernel
theorem own_d5_22 : decode prog_10_method_7_code 22 = .ok (.if_icmp .ne 29, 3) := by decide +kernel
theorem own_d5_25 : decode prog_10_method_7_code 25 = .ok (.aload_n 0, 1) := by decide +kernel
theorem own_d5_26 : decode prog_10_method_7_code 26 = .ok (.getfield 31, 3) := by decide +kernel
theorem own_d5_29 : decode prog_10_method_7_code 29 = .ok (.aload_n 2, 1) := by decide +kernel
theorem own_d5_30 : decode prog_10_method_7_code 30 = .ok (.getfield 31, 3) := by decide +kernel
theorem own_d5_33 : decode prog_10_method_7_code 33 = .ok (.if_icmp .ne 18, 3) := by decide +kernel
theorem own_d5_36 : decode prog_10_method_7_code 36 = .ok (.aload_n 0, 1) := by decide +kernel
theorem own_d5_37 : decode prog_10_method_7_code 37 = .ok (.getfield 34, 3) := by decide +kernel
theorem own_d5_40 : decode prog_10_method_7_code 40 = .ok (.aload_n 2, 1) := by decide +kernel
theorem own_d5_41 : decode prog_10_method_7_code 41 = .ok (.getfield 34, 3) := by decide +kernel
theorem own_d5_44 : decode prog_10_method_7_code 44 = .ok (.if_icmp .ne 7, 3) := by decide +kernel
theorem own_d5_47 : decode prog_10_method_7_code 47 = .ok (.iconst 1, 1) := by decide +kernel
theorem own_d5_48 : decode prog_10_method_7_code 48 = .ok (.goto 4, 3) := by decide +kernel
theorem own_d5_51 : decode prog_10_method_7_code 51 = .ok (.iconst 0, 1) := by decide +kernel
theorem own_d5_52 : decode prog_10_method_7_code 52 = .ok (.ireturn, 1) := by decide +kernel
def own_f5_o (x0 : Int32) (x1 : Int32) (x2 : Int32) (y0 : Int32) (y1 : Int32) (y2 : Int32) : Int32 := (if x0 = y0 then (if x1 = y1 then (if x2 = y2 then (1 : Int32) else (0 : Int32)) else (0 : Int32)) else (0 : Int32))
set_option maxRecDepth 65536 in
set_option maxHeartbeats 40000000 in
theorem rm5_o (l : Launch) (Z : State) (a0 : Array Value) (hw : ∀ d ∈ tables_1, d.before a0 Z = true) (ws : List Jvm.Cond) (a1 : Addr) (a2 : Addr) (x0 : Int32) (x1 : Int32) (x2 : Int32) (y0 : Int32) (y1 : Int32) (y2 : Int32) (h0 : Heap) (F0p : Fld Z h0 a1 "com/example/keys_across_workers/keysacrossworkers/elasticity/VirtualTask" "partition" "I" (.int x0)) (F1p : Fld Z h0 a1 "com/example/keys_across_workers/keysacrossworkers/elasticity/VirtualTask" "bucket" "I" (.int x1)) (F2p : Fld Z h0 a1 "com/example/keys_across_workers/keysacrossworkers/elasticity/VirtualTask" "factor" "I" (.int x2)) (E3p : Exa Z h0 a2 "com/example/keys_across_workers/keysacrossworkers/elasticity/VirtualTask") (F4p : Fld Z h0 a2 "com/example/keys_across_workers/keysacrossworkers/elasticity/VirtualTask" "partition" "I" (.int y0)) (F5p : Fld Z h0 a2 "com/example/keys_across_workers/keysacrossworkers/elasticity/VirtualTask" "bucket" "I" (.int y1)) (F6p : Fld Z h0 a2 "com/example/keys_across_workers/keysacrossworkers/elasticity/VirtualTask" "factor" "I" (.int y2)) :
    MetFree l (⟨"com/example/keys_across_workers/keysacrossworkers/elasticity/VirtualTask", "equals", "(Ljava/lang/Object;)Z"⟩ : MethodName) (head1 (Jvm.Cond.code (⟨"com/example/keys_across_workers/keysacrossworkers/elasticity/VirtualTask", "equals", "(Ljava/lang/Object;)Z"⟩ : MethodName) prog_10_method_7_code 3 (some .boolean) :: ws) ({ frames := 0, cells := 0, slots := 0, locals := 0 } : Room)) (fun a U => a = #[.ref a1, .ref a2] ∧ Z.Warmed39 U.vm ∧ U.heap = h0) (fun _ _ _ _ _ => True) (fun _ U o U' => ∃ v L, o = .returned v ∧ own_P (.int (own_f5_o x0 x1 x2 y0 y1 y2)) h0 v U'.heap L ∧ FrameEnd U o U' L ({ frames := 0, cells := 0, slots := 0, locals := 0 } : Room).cells ({ frames := 0, cells := 0, slots := 0, locals := 0 } : Room).slots) := by
  refine MetFree.of_bodySF (plainFor_of_name own_pn4) hisR ?_
  intro p e s m args below meth c s₁ Bd hml0 hP hK
  obtain ⟨rfl, hZ, hh⟩ := hP
  have hx := Bd.exec
  have hby := Bd.bytes
  have hml : c.maxLocals = 3 := hml0
  have hown : s.vm.findClass "com/example/keys_across_workers/keysacrossworkers/elasticity/VirtualTask" = some m.cls := findClass_of_methodNamed Bd.named
  have hnm := (name_of_methodNamed Bd.named Bd.method).1
  have hlk : meth.locks = false := BodyLoose.notSynchronized Bd
  have X0 : Stand p l e ({ frames := 0, cells := 0, slots := 0, locals := 0 } : Room) s m #[.ref a1, .ref a2] below meth c s₁ [] 0 0 := Stand.of_body Bd
  have e0 : s₁.heap = h0 := by rw [← hh, Bd.state]; rfl
  show own_Go p e below s 0 0 (own_P (.int (own_f5_o x0 x1 x2 y0 y1 y2)) h0) (s₁.setTop (entryFrame m #[.ref a1, .ref a2] 3))
  rw [own_ef5]
  refine own_aloadN X0 hx (hb hby own_d5_0) (q := 1) rfl rfl rfl ?_
  refine own_instY X0 hx hZ hown (hw _ (List.mem_of_getElem? (i := 33) rfl)) e0 (Ins.self E3p) (hb hby own_d5_1) (q := 4) rfl (fun T46 X47 e48 => ?_)
  refine own_if0M X47 hx (hb hby own_d5_4) (cd := .ne) (x := (1 : Int32)) (pt := 9) (q := 7) (by decide) (by decide) rfl rfl (fun _ => ?_) (fun h => False.elim (((by decide) : ¬ ((1 : Int32) = (0 : Int32))) h))
  refine own_aloadN X47 hx (hb hby own_d5_9) (q := 10) rfl rfl rfl ?_
  refine own_cast X47 hx hZ hown (hw _ (List.mem_of_getElem? (i := 33) rfl)) e48 (Ins.self E3p) (hb hby own_d5_10) (q := 13) rfl (fun T49 X50 e51 => ?_)
  refine own_astoreN (L' := #[.val (.ref a1), .val (.ref a2), .val (.ref a2)]) X50 hx (hb hby own_d5_13) (q := 14) rfl rfl rfl ?_
  refine own_aloadN X50 hx (hb hby own_d5_14) (q := 15) rfl rfl rfl ?_
  refine own_getF X50 hx hZ hown (host := "") (Or.inl (hw _ (List.mem_of_getElem? (i := 22) rfl))) Via.refl e51 F0p (hb hby own_d5_15) (q := 18) rfl (fun T52 X53 e54 => ?_)
  refine own_aloadN X53 hx (hb hby own_d5_18) (q := 19) rfl rfl rfl ?_
  refine own_getF X53 hx hZ hown (host := "") (Or.inl (hw _ (List.mem_of_getElem? (i := 22) rfl))) Via.refl e54 F4p (hb hby own_d5_19) (q := 22) rfl (fun T55 X56 e57 => ?_)
  refine own_icmpM X56 hx (hb hby own_d5_22) (cd := .ne) (x := x0) (y := y0) (pt := 51) (q := 25) (by decide) (by decide) rfl rfl (fun (c2 : ¬ (x0 = y0)) => ?_) (fun (c2 : x0 = y0) => ?_)
  · refine own_iconst X56 hx (v := (0 : Int32)) (hb hby own_d5_51) (q := 52) rfl rfl ?_
    refine own_retN X56 hx hlk (t := .boolean) (by simp) Bd.returns (hb hby own_d5_52) ?_ (by decide) (by decide)
    have r : own_f5_o x0 x1 x2 y0 y1 y2 = (0 : Int32) := by rw [own_f5_o, if_neg c2]
    exact ⟨by rw [r] <;> rfl, e57, rfl⟩
  · refine own_aloadN X56 hx (hb hby own_d5_25) (q := 26) rfl rfl rfl ?_
    refine own_getF X56 hx hZ hown (host := "") (Or.inl (hw _ (List.mem_of_getElem? (i := 24) rfl))) Via.refl e57 F1p (hb hby own_d5_26) (q := 29) rfl (fun T58 X59 e60 => ?_)
    refine own_aloadN X59 hx (hb hby own_d5_29) (q := 30) rfl rfl rfl ?_
    refine own_getF X59 hx hZ hown (host := "") (Or.inl (hw _ (List.mem_of_getElem? (i := 24) rfl))) Via.refl e60 F5p (hb hby own_d5_30) (q := 33) rfl (fun T61 X62 e63 => ?_)
    refine own_icmpM X62 hx (hb hby own_d5_33) (cd := .ne) (x := x1) (y := y1) (pt := 51) (q := 36) (by decide) (by decide) rfl rfl (fun (c3 : ¬ (x1 = y1)) => ?_) (fun (c3 : x1 = y1) => ?_)
    · refine own_iconst X62 hx (v := (0 : Int32)) (hb hby own_d5_51) (q := 52) rfl rfl ?_
      refine own_retN X62 hx hlk (t := .boolean) (by simp) Bd.returns (hb hby own_d5_52) ?_ (by decide) (by decide)
      have r : own_f5_o x0 x1 x2 y0 y1 y2 = (0 : Int32) := by rw [own_f5_o, if_pos c2, if_neg c3]
      exact ⟨by rw [r] <;> rfl, e63, rfl⟩
    · refine own_aloadN X62 hx (hb hby own_d5_36) (q := 37) rfl rfl rfl ?_
      refine own_getF X62 hx hZ hown (host := "") (Or.inl (hw _ (List.mem_of_getElem? (i := 26) rfl))) Via.refl e63 F2p (hb hby own_d5_37) (q := 40) rfl (fun T64 X65 e66 => ?_)
      refine own_aloadN X65 hx (hb hby own_d5_40) (q := 41) rfl rfl rfl ?_
      refine own_getF X65 hx hZ hown (host := "") (Or.inl (hw _ (List.mem_of_getElem? (i := 26) rfl))) Via.refl e66 F6p (hb hby own_d5_41) (q := 44) rfl (fun T67 X68 e69 => ?_)
      refine own_icmpM X68 hx (hb hby own_d5_44) (cd := .ne) (x := x2) (y := y2) (pt := 51) (q := 47) (by decide) (by decide) rfl rfl (fun (c4 : ¬ (x2 = y2)) => ?_) (fun (c4 : x2 = y2) => ?_)
      · refine own_iconst X68 hx (v := (0 : Int32)) (hb hby own_d5_51) (q := 52) rfl rfl ?_
        refine own_retN X68 hx hlk (t := .boolean) (by simp) Bd.returns (hb hby own_d5_52) ?_ (by decide) (by decide)
        have r : own_f5_o x0 x1 x2 y0 y1 y2 = (0 : Int32) := by rw [own_f5_o, if_pos c2, if_pos c3, if_neg c4]
        exact ⟨by rw [r] <;> rfl, e69, rfl⟩
      · refine own_iconst X68 hx (v := (1 : Int32)) (hb hby own_d5_47) (q := 48) rfl rfl ?_
        refine own_goto X68 hx (hb hby own_d5_48) (q := 52) (by decide) (by decide) ?_
        refine own_retN X68 hx hlk (t := .boolean) (by simp) Bd.returns (hb hby own_d5_52) ?_ (by decide) (by decide)
        have r : own_f5_o x0 x1 x2 y0 y1 y2 = (1 : Int32) := by rw [own_f5_o, if_pos c2, if_pos c3, if_pos c4]
        exact ⟨by rw [r] <;> rfl, e69, rfl⟩
theorem own_ef5_null (m : MethodId) (a1 : Addr) : entryFrame m #[.ref a1, .null] 3 = mkF m 0 #[.val (.ref a1), .val .null, .unset] [] := by first | (simp [entryFrame, mkF, argsToLocals, Value.category]; done) | rfl
theorem own_d5_7 : decode prog_10_method_7_code 7 = .ok (.iconst 0, 1) := by decide +kernel
theorem own_d5_8 : decode prog_10_method_7_code 8 = .ok (.ireturn, 1) := by decide +kernel
def own_f5_n  : Int32 := (0 : Int32)
set_option maxRecDepth 65536 in
set_option maxHeartbeats 40000000 in
theorem rm5_n (l : Launch) (Z : State) (a0 : Array Value) (hw : ∀ d ∈ tables_1, d.before a0 Z = true) (ws : List Jvm.Cond) (a1 : Addr) (h0 : Heap)  :
    MetFree l (⟨"com/example/keys_across_workers/keysacrossworkers/elasticity/VirtualTask", "equals", "(Ljava/lang/Object;)Z"⟩ : MethodName) (head1 (Jvm.Cond.code (⟨"com/example/keys_across_workers/keysacrossworkers/elasticity/VirtualTask", "equals", "(Ljava/lang/Object;)Z"⟩ : MethodName) prog_10_method_7_code 3 (some .boolean) :: ws) ({ frames := 0, cells := 0, slots := 0, locals := 0 } : Room)) (fun a U => a = #[.ref a1, .null] ∧ Z.Warmed39 U.vm ∧ U.heap = h0) (fun _ _ _ _ _ => True) (fun _ U o U' => ∃ v L, o = .returned v ∧ own_P (.int (own_f5_n )) h0 v U'.heap L ∧ FrameEnd U o U' L ({ frames := 0, cells := 0, slots := 0, locals := 0 } : Room).cells ({ frames := 0, cells := 0, slots := 0, locals := 0 } : Room).slots) := by
  refine MetFree.of_bodySF (plainFor_of_name own_pn4) hisR ?_
  intro p e s m args below meth c s₁ Bd hml0 hP hK
  obtain ⟨rfl, hZ, hh⟩ := hP
  have hx := Bd.exec
  have hby := Bd.bytes
  have hml : c.maxLocals = 3 := hml0
  have hown : s.vm.findClass "com/example/keys_across_workers/keysacrossworkers/elasticity/VirtualTask" = some m.cls := findClass_of_methodNamed Bd.named
  have hnm := (name_of_methodNamed Bd.named Bd.method).1
  have hlk : meth.locks = false := BodyLoose.notSynchronized Bd
  have X0 : Stand p l e ({ frames := 0, cells := 0, slots := 0, locals := 0 } : Room) s m #[.ref a1, .null] below meth c s₁ [] 0 0 := Stand.of_body Bd
  have e0 : s₁.heap = h0 := by rw [← hh, Bd.state]; rfl
  show own_Go p e below s 0 0 (own_P (.int (own_f5_n )) h0) (s₁.setTop (entryFrame m #[.ref a1, .null] 3))
  rw [own_ef5_null]
  refine own_aloadN X0 hx (hb hby own_d5_0) (q := 1) rfl rfl rfl ?_
  refine own_inst0 X0 hx (hb hby own_d5_1) (q := 4) rfl ?_
  refine own_if0M X0 hx (hb hby own_d5_4) (cd := .ne) (x := (0 : Int32)) (pt := 9) (q := 7) (by decide) (by decide) rfl rfl (fun h => False.elim (h ((by decide) : (0 : Int32) = (0 : Int32)))) (fun _ => ?_)
  refine own_iconst X0 hx (v := (0 : Int32)) (hb hby own_d5_7) (q := 8) rfl rfl ?_
  refine own_retN X0 hx hlk (t := .boolean) (by simp) Bd.returns (hb hby own_d5_8) ?_ (by decide) (by decide)
  have r : own_f5_n  = (0 : Int32) := by rw [own_f5_n]
  exact ⟨by rw [r] <;> rfl, e0, rfl⟩
theorem own_noInst {Z : State} {a0 : Array Value} {K0 : String} {n : Nat} (w : (Jvm.Cond.superclass "java/lang/String" "java/lang/Object").before a0 Z = true) (wo : (Jvm.Cond.noSuperclass "java/lang/Object").before a0 Z = true) (wi : (Jvm.Cond.instantiable K0 n).before a0 Z = true) (h1 : "java/lang/String" ≠ K0) (h2 : "java/lang/Object" ≠ K0) :
    ∃ c t, Z.vm.findClass "java/lang/String" = some c ∧ Z.vm.findClass K0 = some t ∧ Z.vm.assignable c t = false := by
  obtain ⟨t, kt, g1, g2, g3, g4, -⟩ := Cond.instantiable_spec wi
  obtain ⟨c, h0⟩ := found_sup w
  obtain ⟨p, k, kp, q1, q2, q3, q4, q5, q6, q7⟩ := Cond.superclass_spec h0 w
  obtain ⟨c', k', r1, r2, r3, -, -⟩ := Cond.noSuperclass_spec wo
  cases r1.symm.trans q1
  have ne1 := ids_ne h0 g1 h1
  have ne2 := ids_ne q1 g1 h2
  have hi : kt.isInterface = false := by simp only [Bool.or_eq_false_iff] at g4; exact g4.1
  refine ⟨c, t, h0, g1, ?_⟩
  have sub : Z.vm.isSubclass c t = false := by
    have : ∀ fuel, Z.vm.isSubclassAux fuel c t = false := fun fuel => by
      cases fuel with
      | zero => rfl
      | succ f =>
        cases f with
        | zero => simp [Vm.isSubclassAux, ne1, q2, q4]
        | succ f => simp [Vm.isSubclassAux, ne1, ne2, q2, q4, r2, r3]
    simp [Vm.isSubclass, this]
  show Z.vm.assignableAux (255 + 1) c t = false
  simp [Vm.assignableAux, ne1, q2, g2, q5, g3, hi, sub]

def own_f5_s  : Int32 := (0 : Int32)
set_option maxRecDepth 65536 in
set_option maxHeartbeats 40000000 in
theorem rm5_s (l : Launch) (Z : State) (a0 : Array Value) (hw : ∀ d ∈ tables_1, d.before a0 Z = true) (ws : List Jvm.Cond) (a1 : Addr) (a2 : Addr) (h0 : Heap) (E0p : Exa Z h0 a2 "java/lang/String") :
    MetFree l (⟨"com/example/keys_across_workers/keysacrossworkers/elasticity/VirtualTask", "equals", "(Ljava/lang/Object;)Z"⟩ : MethodName) (head1 (Jvm.Cond.code (⟨"com/example/keys_across_workers/keysacrossworkers/elasticity/VirtualTask", "equals", "(Ljava/lang/Object;)Z"⟩ : MethodName) prog_10_method_7_code 3 (some .boolean) :: ws) ({ frames := 0, cells := 0, slots := 0, locals := 0 } : Room)) (fun a U => a = #[.ref a1, .ref a2] ∧ Z.Warmed39 U.vm ∧ U.heap = h0) (fun _ _ _ _ _ => True) (fun _ U o U' => ∃ v L, o = .returned v ∧ own_P (.int (own_f5_s )) h0 v U'.heap L ∧ FrameEnd U o U' L ({ frames := 0, cells := 0, slots := 0, locals := 0 } : Room).cells ({ frames := 0, cells := 0, slots := 0, locals := 0 } : Room).slots) := by
  refine MetFree.of_bodySF (plainFor_of_name own_pn4) hisR ?_
  intro p e s m args below meth c s₁ Bd hml0 hP hK
  obtain ⟨rfl, hZ, hh⟩ := hP
  have hx := Bd.exec
  have hby := Bd.bytes
  have hml : c.maxLocals = 3 := hml0
  have hown : s.vm.findClass "com/example/keys_across_workers/keysacrossworkers/elasticity/VirtualTask" = some m.cls := findClass_of_methodNamed Bd.named
  have hnm := (name_of_methodNamed Bd.named Bd.method).1
  have hlk : meth.locks = false := BodyLoose.notSynchronized Bd
  have X0 : Stand p l e ({ frames := 0, cells := 0, slots := 0, locals := 0 } : Room) s m #[.ref a1, .ref a2] below meth c s₁ [] 0 0 := Stand.of_body Bd
  have e0 : s₁.heap = h0 := by rw [← hh, Bd.state]; rfl
  show own_Go p e below s 0 0 (own_P (.int (own_f5_s )) h0) (s₁.setTop (entryFrame m #[.ref a1, .ref a2] 3))
  rw [own_ef5]
  refine own_aloadN X0 hx (hb hby own_d5_0) (q := 1) rfl rfl rfl ?_
  refine own_instN X0 hx hZ hown (hw _ (List.mem_of_getElem? (i := 33) rfl)) e0 E0p (own_noInst (hw _ (List.mem_of_getElem? (i := 59) rfl)) (hw _ (List.mem_of_getElem? (i := 60) rfl)) (hw _ (List.mem_of_getElem? (i := 2) rfl)) (by decide) (by decide)) (hb hby own_d5_1) (q := 4) rfl (fun T70 X71 e72 => ?_)
  refine own_if0M X71 hx (hb hby own_d5_4) (cd := .ne) (x := (0 : Int32)) (pt := 9) (q := 7) (by decide) (by decide) rfl rfl (fun h => False.elim (h ((by decide) : (0 : Int32) = (0 : Int32)))) (fun _ => ?_)
  refine own_iconst X71 hx (v := (0 : Int32)) (hb hby own_d5_7) (q := 8) rfl rfl ?_
  refine own_retN X71 hx hlk (t := .boolean) (by simp) Bd.returns (hb hby own_d5_8) ?_ (by decide) (by decide)
  have r : own_f5_s  = (0 : Int32) := by rw [own_f5_s]
  exact ⟨by rw [r] <;> rfl, e72, rfl⟩
theorem own_pn8 : plainName "java/lang/StringLatin1" = true := by first | (simp [plainName, overriddenIn]; done) | decide +kernel
theorem own_ef7 (m : MethodId) (p1 : Int32) : entryFrame m #[.int p1] 1 = mkF m 0 #[.val (.int p1)] [] := by first | (simp [entryFrame, mkF, argsToLocals, Value.category]; done) | rfl
theorem own_d7_0 : decode jdk_43_method_3_code 0 = .ok (.iload_n 0, 1) := by decide +kernel
theorem own_d7_1 : decode jdk_43_method_3_code 1 = .ok (.sipush 255, 3) := by decide +kernel
theorem own_d7_4 : decode jdk_43_method_3_code 4 = .ok (.if_icmp .gt 7, 3) := by decide +kernel
theorem own_d7_7 : decode jdk_43_method_3_code 7 = .ok (.iconst 1, 1) := by decide +kernel
theorem own_d7_8 : decode jdk_43_method_3_code 8 = .ok (.goto 4, 3) := by decide +kernel
theorem own_d7_11 : decode jdk_43_method_3_code 11 = .ok (.iconst 0, 1) := by decide +kernel
theorem own_d7_12 : decode jdk_43_method_3_code 12 = .ok (.ireturn, 1) := by decide +kernel
def own_f7 (p1 : Int32) : Int32 := (if (255 : Int32) < p1 then (0 : Int32) else (1 : Int32))
set_option maxRecDepth 65536 in
set_option maxHeartbeats 40000000 in
theorem rm7 (l : Launch) (Z : State) (a0 : Array Value) (hw : ∀ d ∈ tables_1, d.before a0 Z = true) (ws : List Jvm.Cond) (p1 : Int32) (h0 : Heap) :
    MetFree l (⟨"java/lang/StringLatin1", "canEncode", "(C)Z"⟩ : MethodName) (head1 (Jvm.Cond.code (⟨"java/lang/StringLatin1", "canEncode", "(C)Z"⟩ : MethodName) jdk_43_method_3_code 1 (some .boolean) :: ws) ({ frames := 0, cells := 0, slots := 0, locals := 0 } : Room)) (fun a U => a = #[.int p1] ∧ Z.Warmed39 U.vm ∧ U.heap = h0) (fun _ _ _ _ _ => True) (fun _ U o U' => ∃ v L, o = .returned v ∧ own_P (.int (own_f7 p1)) h0 v U'.heap L ∧ FrameEnd U o U' L ({ frames := 0, cells := 0, slots := 0, locals := 0 } : Room).cells ({ frames := 0, cells := 0, slots := 0, locals := 0 } : Room).slots) := by
  refine MetFree.of_bodySF (plainFor_of_name own_pn8) hisR ?_
  intro p e s m args below meth c s₁ Bd hml0 hP hK
  obtain ⟨rfl, hZ, hh⟩ := hP
  have hx := Bd.exec
  have hby := Bd.bytes
  have hml : c.maxLocals = 1 := hml0
  have hown : s.vm.findClass "java/lang/StringLatin1" = some m.cls := findClass_of_methodNamed Bd.named
  have hnm := (name_of_methodNamed Bd.named Bd.method).1
  have hlk : meth.locks = false := BodyLoose.notSynchronized Bd
  have X0 : Stand p l e ({ frames := 0, cells := 0, slots := 0, locals := 0 } : Room) s m #[.int p1] below meth c s₁ [] 0 0 := Stand.of_body Bd
  have e0 : s₁.heap = h0 := by rw [← hh, Bd.state]; rfl
  show own_Go p e below s 0 0 (own_P (.int (own_f7 p1)) h0) (s₁.setTop (entryFrame m #[.int p1] 1))
  rw [own_ef7]
  refine own_iloadN X0 hx (hb hby own_d7_0) (q := 1) rfl rfl ?_
  refine own_sipush X0 hx (v := (255 : Int32)) (hb hby own_d7_1) (q := 4) rfl rfl ?_
  refine own_icmpP X0 hx (hb hby own_d7_4) (cd := .gt) (x := p1) (y := (255 : Int32)) (pt := 11) (q := 7) (by decide) (by decide) rfl rfl (fun (c1 : (255 : Int32) < p1) => ?_) (fun (c1 : ¬ ((255 : Int32) < p1)) => ?_)
  · refine own_iconst X0 hx (v := (0 : Int32)) (hb hby own_d7_11) (q := 12) rfl rfl ?_
    refine own_retN X0 hx hlk (t := .boolean) (by simp) Bd.returns (hb hby own_d7_12) ?_ (by decide) (by decide)
    have r : own_f7 p1 = (0 : Int32) := by rw [own_f7, if_pos c1]
    exact ⟨by rw [r] <;> rfl, e0, rfl⟩
  · refine own_iconst X0 hx (v := (1 : Int32)) (hb hby own_d7_7) (q := 8) rfl rfl ?_
    refine own_goto X0 hx (hb hby own_d7_8) (q := 12) (by decide) (by decide) ?_
    refine own_retN X0 hx hlk (t := .boolean) (by simp) Bd.returns (hb hby own_d7_12) ?_ (by decide) (by decide)
    have r : own_f7 p1 = (1 : Int32) := by rw [own_f7, if_neg c1]
    exact ⟨by rw [r] <;> rfl, e0, rfl⟩
theorem own_ef8 (m : MethodId) (p1 : Int32) : entryFrame m #[.int p1] 1 = mkF m 0 #[.val (.int p1)] [] := by first | (simp [entryFrame, mkF, argsToLocals, Value.category]; done) | rfl
theorem own_d8_0 : decode jdk_43_method_46_code 0 = .ok (.iconst 1, 1) := by decide +kernel
theorem own_d8_1 : decode jdk_43_method_46_code 1 = .ok (.newarray .byte, 2) := by decide +kernel
theorem own_d8_3 : decode jdk_43_method_46_code 3 = .ok (.dup, 1) := by decide +kernel
theorem own_d8_4 : decode jdk_43_method_46_code 4 = .ok (.iconst 0, 1) := by decide +kernel
theorem own_d8_5 : decode jdk_43_method_46_code 5 = .ok (.iload_n 0, 1) := by decide +kernel
theorem own_d8_6 : decode jdk_43_method_46_code 6 = .ok (.i2b, 1) := by decide +kernel
theorem own_d8_7 : decode jdk_43_method_46_code 7 = .ok (.bastore, 1) := by decide +kernel
theorem own_d8_8 : decode jdk_43_method_46_code 8 = .ok (.areturn, 1) := by decide +kernel
def own_Q8 (Z : State) (p1 : Int32) (h0 : Heap) (n0 : Nat) (v : Option Value) (h : Heap) (L : List Loc) : Prop := ∃ ra0 : Addr, v = some (.ref ra0) ∧ Fr n0 L ∧ Keep h0 h [] ∧ h0.size ≤ ra0 ∧ own_A Z h ra0 .byte [.int p1.toInt8.toInt32.toInt8.toInt32]
set_option maxRecDepth 65536 in
set_option maxHeartbeats 40000000 in
theorem rm8 (l : Launch) (Z : State) (a0 : Array Value) (hw : ∀ d ∈ tables_1, d.before a0 Z = true) (ws : List Jvm.Cond) (p1 : Int32) (h0 : Heap) (n0 : Nat) (Z0 : n0 ≤ h0.size)  :
    MetFree l (⟨"java/lang/StringLatin1", "toBytes", "(C)[B"⟩ : MethodName) (head1 (Jvm.Cond.code (⟨"java/lang/StringLatin1", "toBytes", "(C)[B"⟩ : MethodName) jdk_43_method_46_code 1 (some (.array .byte)) :: ws) ({ frames := 0, cells := 1, slots := 1, locals := 0 } : Room)) (fun a U => a = #[.int p1] ∧ Z.Warmed39 U.vm ∧ U.heap = h0) (fun _ _ _ _ _ => True) (fun _ U o U' => ∃ v L, o = .returned v ∧ own_Q8 Z p1 h0 n0 v U'.heap L ∧ FrameEnd U o U' L ({ frames := 0, cells := 1, slots := 1, locals := 0 } : Room).cells ({ frames := 0, cells := 1, slots := 1, locals := 0 } : Room).slots) := by
  refine MetFree.of_bodySF (plainFor_of_name own_pn8) hisR ?_
  intro p e s m args below meth c s₁ Bd hml0 hP hK
  obtain ⟨rfl, hZ, hh⟩ := hP
  have hx := Bd.exec
  have hby := Bd.bytes
  have hml : c.maxLocals = 1 := hml0
  have hown : s.vm.findClass "java/lang/StringLatin1" = some m.cls := findClass_of_methodNamed Bd.named
  have hnm := (name_of_methodNamed Bd.named Bd.method).1
  have hlk : meth.locks = false := BodyLoose.notSynchronized Bd
  have X0 : Stand p l e ({ frames := 0, cells := 1, slots := 1, locals := 0 } : Room) s m #[.int p1] below meth c s₁ [] 0 0 := Stand.of_body Bd
  have e0 : s₁.heap = h0 := by rw [← hh, Bd.state]; rfl
  have N0 := Fr.nil n0
  have K0 := Keep.refl h0 []
  show own_Go p e below s 1 1 (own_Q8 Z p1 h0 n0) (s₁.setTop (entryFrame m #[.int p1] 1))
  rw [own_ef8]
  refine own_iconst X0 hx (v := (1 : Int32)) (hb hby own_d8_0) (q := 1) rfl rfl ?_
  refine own_newA X0 hx hZ (aty := .byte) (ty := .byte) (k := 1) (cap := 1) rfl (hw _ (List.mem_of_getElem? (i := 49) rfl)) e0 (by decide) (by decide) (by decide) (by decide) (by decide) (by decide) (hb hby own_d8_1) (q := 3) rfl (fun T73 h76 a77 X74 e75 g78 E79 A80 => ?_)
  have O81 : h0.size ≤ a77 := by rw [g78]; exact K0.1
  have K82 := K0.ext E79
  have Z83 : n0 ≤ a77 := by rw [g78]; exact Z0
  have Z84 : n0 ≤ h76.size := Nat.le_trans Z0 E79.1
  replace A80 : own_A Z h76 a77 .byte [.int (0 : Int32)] := A80
  refine own_dup X74 hx (hb hby own_d8_3) (q := 4) rfl rfl ?_
  refine own_iconst X74 hx (v := (0 : Int32)) (hb hby own_d8_4) (q := 5) rfl rfl ?_
  refine own_iloadN X74 hx (hb hby own_d8_5) (q := 6) rfl rfl ?_
  refine own_i2b X74 hx (hb hby own_d8_6) (q := 7) rfl ?_
  refine own_bastore X74 hx hZ (i := 0) e75 A80 (by decide) (by decide) (Nat.le_of_ble_eq_true rfl) (hb hby own_d8_7) (q := 8) rfl (fun T85 h88 X86 e87 W89 A90 => ?_)
  replace A90 : own_A Z h88 a77 .byte [.int p1.toInt8.toInt32.toInt8.toInt32] := A90
  have K91 := K82.wr W89 (Or.inr O81)
  have Z92 : n0 ≤ h88.size := W89.size ▸ Z84
  have N93 := Fr.snoc X86 N0 Z83
  refine own_retA X86 hx hlk rfl rfl rfl Bd.returns (hb hby own_d8_8) ?_ (by decide) (by decide)
  show own_Q8 Z p1 h0 n0 _ T85.heap _
  rw [e87]
  exact ⟨a77, rfl, N93, K91, O81, A90⟩
theorem own_pn11 : plainName "java/lang/String" = true := by first | (simp [plainName, overriddenIn]; done) | decide +kernel
theorem own_ef9_k0 (m : MethodId) (a1 : Addr) (a2 : Addr) : entryFrame m #[.ref a1, .ref a2, .int (0 : Int32)] 3 = mkF m 0 #[.val (.ref a1), .val (.ref a2), .val (.int (0 : Int32))] [] := by first | (simp [entryFrame, mkF, argsToLocals, Value.category]; done) | rfl
theorem own_d9_0 : decode jdk_42_method_151_code 0 = .ok (.aload_n 0, 1) := by decide +kernel
theorem own_d9_1 : decode jdk_42_method_151_code 1 = .ok (.invokespecial 1, 3) := by decide +kernel
theorem own_d9_4 : decode jdk_42_method_151_code 4 = .ok (.aload_n 0, 1) := by decide +kernel
theorem own_d9_5 : decode jdk_42_method_151_code 5 = .ok (.aload_n 1, 1) := by decide +kernel
theorem own_d9_6 : decode jdk_42_method_151_code 6 = .ok (.putfield 9, 3) := by decide +kernel
theorem own_d9_9 : decode jdk_42_method_151_code 9 = .ok (.aload_n 0, 1) := by decide +kernel
theorem own_d9_10 : decode jdk_42_method_151_code 10 = .ok (.iload_n 2, 1) := by decide +kernel
theorem own_d9_11 : decode jdk_42_method_151_code 11 = .ok (.putfield 15, 3) := by decide +kernel
theorem own_d9_14 : decode jdk_42_method_151_code 14 = .ok (.return_, 1) := by decide +kernel
def own_Q9 (Z : State) (a1 : Addr) (a2 : Addr) (h0 : Heap) (n0 : Nat) (v : Option Value) (h : Heap) (L : List Loc) : Prop := v = none ∧ Fr n0 L ∧ Keep h0 h [a1] ∧ Exa Z h a1 "java/lang/String" ∧ Fld Z h a1 "java/lang/String" "value" "[B" (.ref a2) ∧ Fld Z h a1 "java/lang/String" "coder" "B" (.int (0 : Int32))
set_option maxRecDepth 65536 in
set_option maxHeartbeats 40000000 in
theorem rm9 (l : Launch) (Z : State) (a0 : Array Value) (hw : ∀ d ∈ tables_1, d.before a0 Z = true) (ws : List Jvm.Cond) (a1 : Addr) (a2 : Addr) (h0 : Heap) (n0 : Nat) (E0p : Exa Z h0 a1 "java/lang/String") (F1p : Fld Z h0 a1 "java/lang/String" "value" "[B" (.null)) (F2p : Fld Z h0 a1 "java/lang/String" "coder" "B" (.int (0 : Int32))) (G_a1 : n0 ≤ a1) :
    MetFree l (⟨"java/lang/String", "<init>", "([BB)V"⟩ : MethodName) (head1 (Jvm.Cond.code (⟨"java/lang/String", "<init>", "([BB)V"⟩ : MethodName) jdk_42_method_151_code 3 none :: ws) ({ frames := 1, cells := 0, slots := 0, locals := 12 } : Room)) (fun a U => a = #[.ref a1, .ref a2, .int (0 : Int32)] ∧ Z.Warmed39 U.vm ∧ U.heap = h0) (fun _ _ _ _ _ => True) (fun _ U o U' => ∃ v L, o = .returned v ∧ own_Q9 Z a1 a2 h0 n0 v U'.heap L ∧ FrameEnd U o U' L ({ frames := 1, cells := 0, slots := 0, locals := 12 } : Room).cells ({ frames := 1, cells := 0, slots := 0, locals := 12 } : Room).slots) := by
  refine MetFree.of_bodySF (plainFor_of_name own_pn11) hisR ?_
  intro p e s m args below meth c s₁ Bd hml0 hP hK
  obtain ⟨rfl, hZ, hh⟩ := hP
  have hx := Bd.exec
  have hby := Bd.bytes
  have hml : c.maxLocals = 3 := hml0
  have hown : s.vm.findClass "java/lang/String" = some m.cls := findClass_of_methodNamed Bd.named
  have hnm := (name_of_methodNamed Bd.named Bd.method).1
  have hlk : meth.locks = false := BodyLoose.notSynchronized Bd
  have X0 : Stand p l e ({ frames := 1, cells := 0, slots := 0, locals := 12 } : Room) s m #[.ref a1, .ref a2, .int (0 : Int32)] below meth c s₁ [] 0 0 := Stand.of_body Bd
  have e0 : s₁.heap = h0 := by rw [← hh, Bd.state]; rfl
  have N0 := Fr.nil n0
  have K0 := Keep.refl h0 [a1]
  show own_Go p e below s 0 0 (own_Q9 Z a1 a2 h0 n0) (s₁.setTop (entryFrame m #[.ref a1, .ref a2, .int (0 : Int32)] 3))
  rw [own_ef9_k0]
  refine own_aloadN X0 hx (hb hby own_d9_0) (q := 1) rfl rfl rfl ?_
  refine own_initO X0 hx hZ hown (hw _ (List.mem_of_getElem? (i := 54) rfl)) (hw _ (List.mem_of_getElem? (i := 8) rfl)) (hw _ (List.mem_of_getElem? (i := 9) rfl)) e0 (by rw [hml]; rfl) (by decide) (W := 0) (Nat.le_of_eq rfl) (by decide) (hb hby own_d9_1) (q := 4) rfl (fun T94 X95 e96 => ?_)
  refine own_aloadN X95 hx (hb hby own_d9_4) (q := 5) rfl rfl rfl ?_
  refine own_aloadN X95 hx (hb hby own_d9_5) (q := 6) rfl rfl rfl ?_
  refine own_putF X95 hx hZ hown (host := "") (Or.inl (hw _ (List.mem_of_getElem? (i := 55) rfl))) Via.refl e96 F1p E0p (Or.inr ⟨(hw _ (List.mem_of_getElem? (i := 56) rfl)), rfl, hnm⟩) (hw _ (List.mem_of_getElem? (i := 45) rfl)) (ty := (.array .byte)) (by decide) rfl rfl (hb hby own_d9_6) (q := 9) rfl (fun T97 h100 X98 e99 W101 => ?_)
  have E102 := Exa.wr W101 E0p
  have F103 := Fld.same W101 F1p
  have F104 := Fld.other W101 F2p (Or.inr (slot_ne (C := "java/lang/String") (Or.inr (hw _ (List.mem_of_getElem? (i := 58) rfl))) (Or.inr (hw _ (List.mem_of_getElem? (i := 56) rfl))) (by decide) (t := .byte) (t' := (.array .byte)) (by decide) (by decide)))
  have K105 := K0.wr W101 (Or.inl (List.mem_of_getElem? (i := 0) rfl))
  have N106 := Fr.snoc X98 N0 G_a1
  refine own_aloadN X98 hx (hb hby own_d9_9) (q := 10) rfl rfl rfl ?_
  refine own_iloadN X98 hx (hb hby own_d9_10) (q := 11) rfl rfl ?_
  refine own_putF X98 hx hZ hown (host := "") (Or.inl (hw _ (List.mem_of_getElem? (i := 57) rfl))) Via.refl e99 F104 E102 (Or.inr ⟨(hw _ (List.mem_of_getElem? (i := 58) rfl)), rfl, hnm⟩) (hw _ (List.mem_of_getElem? (i := 45) rfl)) (ty := .byte) (by decide) rfl rfl (hb hby own_d9_11) (q := 14) rfl (fun T107 h110 X108 e109 W111 => ?_)
  have E112 := Exa.wr W111 E102
  have F113 := Fld.other W111 F103 (Or.inr (slot_ne (C := "java/lang/String") (Or.inr (hw _ (List.mem_of_getElem? (i := 56) rfl))) (Or.inr (hw _ (List.mem_of_getElem? (i := 58) rfl))) (by decide) (t := (.array .byte)) (t' := .byte) (by decide) (by decide)))
  have F114 := Fld.same W111 F104
  have K115 := K105.wr W111 (Or.inl (List.mem_of_getElem? (i := 0) rfl))
  have N116 := Fr.snoc X108 N106 G_a1
  refine own_retV X108 hx hlk (rest := []) Bd.returns (hb hby own_d9_14) ?_ (by decide) (by decide)
  show own_Q9 Z a1 a2 h0 n0 _ T107.heap _
  rw [e109]
  exact ⟨rfl, N116, K115, E112, F113, F114⟩
theorem own_ce {x : Int32} (h : ¬ (255 : Int32) < x) : ¬ own_f7 x = 0 := by rw [own_f7, if_neg h]; decide
theorem own_pd2 : parseMethodDescriptor "(C)Z" = some ⟨[.char], some .boolean⟩ := by decide +kernel
theorem own_pd3 : parseMethodDescriptor "(C)[B" = some ⟨[.char], some (.array .byte)⟩ := by decide +kernel
theorem own_pd4 : parseMethodDescriptor "([BB)V" = some ⟨[(.array .byte), .byte], none⟩ := by decide +kernel
theorem own_ef6 (m : MethodId) (p1 : Int32) : entryFrame m #[.int p1] 1 = mkF m 0 #[.val (.int p1)] [] := by first | (simp [entryFrame, mkF, argsToLocals, Value.category]; done) | rfl
theorem own_d6_0 : decode jdk_42_method_139_code 0 = .ok (.getstatic 38, 3) := by decide +kernel
theorem own_d6_3 : decode jdk_42_method_139_code 3 = .ok (.ifCond .eq 23, 3) := by decide +kernel
theorem own_d6_6 : decode jdk_42_method_139_code 6 = .ok (.iload_n 0, 1) := by decide +kernel
theorem own_d6_7 : decode jdk_42_method_139_code 7 = .ok (.invokestatic 1015, 3) := by decide +kernel
theorem own_d6_10 : decode jdk_42_method_139_code 10 = .ok (.ifCond .eq 16, 3) := by decide +kernel
theorem own_d6_13 : decode jdk_42_method_139_code 13 = .ok (.new 10, 3) := by decide +kernel
theorem own_d6_16 : decode jdk_42_method_139_code 16 = .ok (.dup, 1) := by decide +kernel
theorem own_d6_17 : decode jdk_42_method_139_code 17 = .ok (.iload_n 0, 1) := by decide +kernel
theorem own_d6_18 : decode jdk_42_method_139_code 18 = .ok (.invokestatic 1018, 3) := by decide +kernel
theorem own_d6_21 : decode jdk_42_method_139_code 21 = .ok (.iconst 0, 1) := by decide +kernel
theorem own_d6_22 : decode jdk_42_method_139_code 22 = .ok (.invokespecial 209, 3) := by decide +kernel
theorem own_d6_25 : decode jdk_42_method_139_code 25 = .ok (.areturn, 1) := by decide +kernel
def own_Q6 (Z : State) (p1 : Int32) (cs : Int32) (h0 : Heap) (n0 : Nat) (v : Option Value) (h : Heap) (L : List Loc) : Prop := ∃ ra0 : Addr, v = some (.ref ra0) ∧ Fr n0 L ∧ Keep h0 h [] ∧ h0.size ≤ ra0 ∧ Exa Z h ra0 "java/lang/String"
set_option maxRecDepth 65536 in
set_option maxHeartbeats 40000000 in
theorem rm6 (l : Launch) (Z : State) (a0 : Array Value) (hw : ∀ d ∈ tables_1, d.before a0 Z = true) (ws : List Jvm.Cond) (p1 : Int32) (cs : Int32) (h0 : Heap) (n0 : Nat) (Z0 : n0 ≤ h0.size) (S0p : Sta Z h0 "java/lang/String" "COMPACT_STRINGS" "Z" (.int cs)) (P0 : ¬ cs = 0) (P1 : ¬ (255 : Int32) < p1) :
    MetFree l (⟨"java/lang/String", "valueOf", "(C)Ljava/lang/String;"⟩ : MethodName) (head1 (Jvm.Cond.code (⟨"java/lang/String", "valueOf", "(C)Ljava/lang/String;"⟩ : MethodName) jdk_42_method_139_code 1 (some (.object "java/lang/String")) :: ws) ({ frames := 2, cells := 2, slots := 5, locals := 27 } : Room)) (fun a U => a = #[.int p1] ∧ Z.Warmed39 U.vm ∧ U.heap = h0) (fun _ _ _ _ _ => True) (fun _ U o U' => ∃ v L, o = .returned v ∧ own_Q6 Z p1 cs h0 n0 v U'.heap L ∧ FrameEnd U o U' L ({ frames := 2, cells := 2, slots := 5, locals := 27 } : Room).cells ({ frames := 2, cells := 2, slots := 5, locals := 27 } : Room).slots) := by
  refine MetFree.of_bodySF (plainFor_of_name own_pn11) hisR ?_
  intro p e s m args below meth c s₁ Bd hml0 hP hK
  obtain ⟨rfl, hZ, hh⟩ := hP
  have hx := Bd.exec
  have hby := Bd.bytes
  have hml : c.maxLocals = 1 := hml0
  have hown : s.vm.findClass "java/lang/String" = some m.cls := findClass_of_methodNamed Bd.named
  have hnm := (name_of_methodNamed Bd.named Bd.method).1
  have hlk : meth.locks = false := BodyLoose.notSynchronized Bd
  have X0 : Stand p l e ({ frames := 2, cells := 2, slots := 5, locals := 27 } : Room) s m #[.int p1] below meth c s₁ [] 0 0 := Stand.of_body Bd
  have e0 : s₁.heap = h0 := by rw [← hh, Bd.state]; rfl
  have N0 := Fr.nil n0
  have K0 := Keep.refl h0 []
  show own_Go p e below s 2 5 (own_Q6 Z p1 cs h0 n0) (s₁.setTop (entryFrame m #[.int p1] 1))
  rw [own_ef6]
  refine own_getS X0 hx hZ hown (hw _ (List.mem_of_getElem? (i := 39) rfl)) Via.refl e0 S0p (hb hby own_d6_0) (q := 3) rfl (fun T117 X118 e119 => ?_)
  refine own_if0P X118 hx (hb hby own_d6_3) (cd := .eq) (x := cs) (pt := 26) (q := 6) (by decide) (by decide) rfl rfl (fun h => False.elim ((P0 : ¬ (cs = (0 : Int32))) h)) (fun _ => ?_)
  refine own_iloadN X118 hx (hb hby own_d6_6) (q := 7) rfl rfl ?_
  refine own_callSP X118 hx hZ hown (hw _ (List.mem_of_getElem? (i := 40) rfl)) (hw _ (List.mem_of_getElem? (i := 41) rfl)) (hw _ (List.mem_of_getElem? (i := 42) rfl)) (hw _ (List.mem_of_getElem? (i := 43) rfl)) (by decide) (rm7 l Z a0 hw [] p1 h0) own_pd2 rfl e119 (by rw [hml]; rfl) (argsL := [.int p1]) (st := []) rfl (W := 0) (Nat.le_of_eq rfl) (by decide) (by decide) (by decide) (by decide) (hb hby own_d6_7) (q := 10) rfl (fun T120 X121 e122 => ?_)
  refine own_if0P X121 hx (hb hby own_d6_10) (cd := .eq) (x := own_f7 p1) (pt := 26) (q := 13) (by decide) (by decide) rfl rfl (fun h => False.elim ((own_ce P1 : ¬ ((own_f7 p1) = (0 : Int32))) h)) (fun _ => ?_)
  refine own_new X121 hx hZ hown (hw _ (List.mem_of_getElem? (i := 44) rfl)) (hw _ (List.mem_of_getElem? (i := 45) rfl)) (hw _ (List.mem_of_getElem? (i := 37) rfl)) e122 (hb hby own_d6_13) (by decide) (by decide) (q := 16) rfl (fun T123 h126 a127 X124 e125 g128 E129 A130 D131 => ?_)
  have O132 : h0.size ≤ a127 := by rw [g128]; exact K0.1
  have S133 := Sta.ext E129 S0p
  have K134 := K0.ext E129
  have Z135 : n0 ≤ a127 := by rw [g128]; exact Z0
  have Z136 : n0 ≤ h126.size := Nat.le_trans Z0 E129.1
  have F137 : Fld Z h126 a127 "java/lang/String" "value" "[B" (.null) := D131 (Or.inr (hw _ (List.mem_of_getElem? (i := 56) rfl))) (ty := (.array .byte)) (by decide)
  have F138 : Fld Z h126 a127 "java/lang/String" "coder" "B" (.int (0 : Int32)) := D131 (Or.inr (hw _ (List.mem_of_getElem? (i := 58) rfl))) (ty := .byte) (by decide)
  refine own_dup X124 hx (hb hby own_d6_16) (q := 17) rfl rfl ?_
  refine own_iloadN X124 hx (hb hby own_d6_17) (q := 18) rfl rfl ?_
  refine own_callS X124 hx hZ hown (hw _ (List.mem_of_getElem? (i := 46) rfl)) (hw _ (List.mem_of_getElem? (i := 47) rfl)) (hw _ (List.mem_of_getElem? (i := 42) rfl)) (hw _ (List.mem_of_getElem? (i := 48) rfl)) (by decide) (rm8 l Z a0 hw [] p1 h126 n0 Z136  ) own_pd3 rfl e125 (by rw [hml]; rfl) (argsL := [.int p1]) (st := [.ref a127, .ref a127]) rfl (W := 2) (Nat.le_of_eq rfl) (by decide) (by decide) (by decide) (by decide) (hb hby own_d6_18) (q := 21) rfl (fun v145 T146 L147 X148 hQ149 => ?_)
  obtain ⟨a153, rfl, N150, K151, O154, A155⟩ := hQ149
  have S156 := own_staKeep S133 K151 all0
  have A157 := A130.keep K151
  have F158 := F137.keep K151 nin0
  have F159 := F138.keep K151 nin0
  have Z160 : n0 ≤ T146.heap.size := Nat.le_trans Z136 K151.1
  have K161 := K134.trans K151 all0
  have N152 := Fr.app N0 N150
  have ne162 : a127 ≠ a153 := Nat.ne_of_lt (Nat.lt_of_lt_of_le A130.lt O154)
  have Z163 : n0 ≤ a153 := Nat.le_trans Z136 O154
  have O164 : h0.size ≤ a153 := Nat.le_trans K134.1 O154
  show own_Go p e below s 2 5 (own_Q6 Z p1 cs h0 n0) (T146.setTop (mkF m 21 #[.val (.int p1)] [.ref a153, .ref a127, .ref a127]))
  refine own_iconst X148 hx (v := (0 : Int32)) (hb hby own_d6_21) (q := 22) rfl rfl ?_
  refine own_callC X148 hx hZ hown rfl (hw _ (List.mem_of_getElem? (i := 50) rfl)) (hw _ (List.mem_of_getElem? (i := 51) rfl)) (hw _ (List.mem_of_getElem? (i := 37) rfl)) (hw _ (List.mem_of_getElem? (i := 53) rfl)) (by decide) (rm9 l Z a0 hw [] a127 a153 T146.heap n0 A157 F158 F159 Z135 ) own_pd4 rfl rfl (by rw [hml]; rfl) (argsL := [.ref a153, .int (0 : Int32)]) (st := [.ref a127]) rfl (W := 1) (Nat.le_of_eq rfl) (by decide) (by decide) (by decide) (by decide) (hb hby own_d6_22) (q := 25) rfl (fun v168 T169 L170 X171 hQ172 => ?_)
  obtain ⟨rfl, N173, K174, E176, F177, F178⟩ := hQ172
  have S179 := own_staKeep S156 K174 (allS (own_exaPlain A157) all0)
  have A180 := A155.keep K174 (ninS (Ne.symm ne162) nin0)
  have Z181 : n0 ≤ T169.heap.size := Nat.le_trans Z160 K174.1
  have K182 := K161.trans K174 (allS (Or.inr O132) all0)
  have N175 := Fr.app N152 N173
  show own_Go p e below s 2 5 (own_Q6 Z p1 cs h0 n0) (T169.setTop (mkF m 25 #[.val (.int p1)] [.ref a127]))
  refine own_retA X171 hx hlk rfl rfl rfl Bd.returns (hb hby own_d6_25) ?_ (by decide) (by decide)
  show own_Q6 Z p1 cs h0 n0 _ T169.heap _
  exact ⟨a127, rfl, N175, K182, O132, E176⟩
theorem own_c255 (x : Int32) : ¬ (255 : Int32) < (x &&& 255).toUInt32.toUInt16.toUInt32.toInt32 := by
  rw [i2c_mask]
  have h := c_mask x 255 8 (by decide) (by decide)
  rw [Int32.lt_iff_toInt_lt, h]; simp only [Int32.reduceToInt]; omega
theorem own_self (x0 x1 x2 : Int32) : own_f5_o x0 x1 x2 x0 x1 x2 = 1 := by unfold own_f5_o; simp
theorem own_sym (x0 x1 x2 y0 y1 y2 : Int32) : own_f5_o x0 x1 x2 y0 y1 y2 = own_f5_o y0 y1 y2 x0 x1 x2 := by
  unfold own_f5_o
  by_cases h0 : x0 = y0
  · by_cases h1 : x1 = y1
    · by_cases h2 : x2 = y2
      · subst h0 h1 h2; rfl
      · rw [if_pos h0, if_pos h1, if_neg h2, if_pos h0.symm, if_pos h1.symm, if_neg (Ne.symm h2)]
    · rw [if_pos h0, if_neg h1, if_pos h0.symm, if_neg (Ne.symm h1)]
  · rw [if_neg h0, if_neg (Ne.symm h0)]
theorem own_z1 (k x y z : Int32) (hz : z = (if k = 0 then (x &&& (2147483647 : Int32)) else (y &&& (2147483647 : Int32)))) : ¬ z < 0 := by
  subst hz; split <;> exact own_nn _
theorem own_z2 (k x y z : Int32) (hx : own_fac x) (hy : own_fac y) (hz : z = (if k = 0 then x else y)) : own_fac z := by
  subst hz; split <;> assumption
theorem own_z3 (k f x y z : Int32) (hf : own_fac f) (hz : z = (if k = 0 then (x &&& (f - 1)) else (y &&& (f - 1)))) : ¬ z < 0 ∧ z < f := by
  subst hz; split <;> exact own_bkt hf _
theorem own_pd5 : parseMethodDescriptor "(III)V" = some ⟨[.int, .int, .int], none⟩ := by decide +kernel
theorem own_pd6 : parseMethodDescriptor "(Ljava/lang/Object;)Z" = some ⟨[(.object "java/lang/Object")], some .boolean⟩ := by decide +kernel
theorem own_pd7 : parseMethodDescriptor "(C)Ljava/lang/String;" = some ⟨[.char], some (.object "java/lang/String")⟩ := by decide +kernel
theorem own_pn14 : plainName "com/example/keys_across_workers/keysacrossworkers/elasticity/VirtualTaskEqualsPinLaw" = true := by first | (simp [plainName, overriddenIn]; done) | decide +kernel
theorem own_ef0 (m : MethodId) (p1 : Int32) (p2 : Int32) (p3 : Int32) (p4 : Int32) (p5 : Int32) (p6 : Int32) : entryFrame m #[.int p1, .int p2, .int p3, .int p4, .int p5, .int p6] maxLocals = mkF m 0 #[.val (.int p1), .val (.int p2), .val (.int p3), .val (.int p4), .val (.int p5), .val (.int p6), .unset, .unset, .unset, .unset, .unset, .unset, .unset, .unset, .unset, .unset] [] := by first | (simp [entryFrame, mkF, argsToLocals, Value.category, maxLocals]; done) | rfl
def own_Q0 (n0 : Nat) (v : Option Value) (h : Heap) (L : List Loc) : Prop := v = some (.int 1) ∧ Fr n0 L
set_option maxRecDepth 65536 in
set_option maxHeartbeats 40000000 in
theorem rm0 (l : Launch) (Z : State) (a0 : Array Value) (hw : ∀ d ∈ tables_1, d.before a0 Z = true) (ws : List Jvm.Cond) (p1 : Int32) (p2 : Int32) (p3 : Int32) (p4 : Int32) (p5 : Int32) (p6 : Int32) (h0 : Heap) (n0 : Nat) (Z0 : n0 ≤ h0.size) {cs : Int32} (SCS : Sta Z h0 "java/lang/String" "COMPACT_STRINGS" "Z" (.int cs)) (PCS : ¬ cs = 0) :
    MetFree l x (head1 (Jvm.Cond.code x code maxLocals ret :: ws) room_1) (fun a U => a = #[.int p1, .int p2, .int p3, .int p4, .int p5, .int p6] ∧ Z.Warmed39 U.vm ∧ U.heap = h0) (fun _ _ _ _ _ => True) (fun _ U o U' => ∃ v L, o = .returned v ∧ own_Q0 n0 v U'.heap L ∧ FrameEnd U o U' L 16 128) := by
  refine MetFree.of_bodySF (plainFor_of_name own_pn14) hisR ?_
  intro p e s m args below meth c s₁ Bd hml0 hP hK
  obtain ⟨rfl, hZ, hh⟩ := hP
  have hx := Bd.exec
  have hby := Bd.bytes
  have hml : c.maxLocals = 16 := hml0
  have hown : s.vm.findClass "com/example/keys_across_workers/keysacrossworkers/elasticity/VirtualTaskEqualsPinLaw" = some m.cls := findClass_of_methodNamed Bd.named
  have hnm := (name_of_methodNamed Bd.named Bd.method).1
  have hlk : meth.locks = false := BodyLoose.notSynchronized Bd
  have X0 : Stand p l e room_1 s m #[.int p1, .int p2, .int p3, .int p4, .int p5, .int p6] below meth c s₁ [] 0 0 := Stand.of_body Bd
  have e0 : s₁.heap = h0 := by rw [← hh, Bd.state]; rfl
  have N0 := Fr.nil n0
  show own_Go p e below s 16 128 (own_Q0 n0) (s₁.setTop (entryFrame m #[.int p1, .int p2, .int p3, .int p4, .int p5, .int p6] maxLocals))
  rw [own_ef0]
  refine own_iloadN X0 hx (hb hby at_0) (q := 1) rfl rfl ?_
  refine own_ldc X0 hx hZ hown (hw _ (List.mem_of_getElem? (i := 0) rfl)) (hb hby at_1) (q := 3) rfl ?_
  refine own_iand X0 hx (hb hby at_3) (q := 4) rfl ?_
  refine own_istore (L' := #[.val (.int p1), .val (.int p2), .val (.int p3), .val (.int p4), .val (.int p5), .val (.int p6), .val (.int (p1 &&& (2147483647 : Int32))), .unset, .unset, .unset, .unset, .unset, .unset, .unset, .unset, .unset]) X0 hx (hb hby at_4) (q := 6) rfl rfl ?_
  refine own_iconst X0 hx (v := (1 : Int32)) (hb hby at_6) (q := 7) rfl rfl ?_
  refine own_iloadN X0 hx (hb hby at_7) (q := 8) rfl rfl ?_
  refine own_ldc X0 hx hZ hown (hw _ (List.mem_of_getElem? (i := 0) rfl)) (hb hby at_8) (q := 10) rfl ?_
  refine own_iand X0 hx (hb hby at_10) (q := 11) rfl ?_
  refine own_bipush X0 hx (v := (17 : Int32)) (hb hby at_11) (q := 13) rfl rfl ?_
  refine own_irem X0 hx (hb hby at_13) (q := 14) rfl (by decide) ?_
  refine own_ishl X0 hx (hb hby at_14) (q := 15) rfl ?_
  refine own_istore (L' := #[.val (.int p1), .val (.int p2), .val (.int p3), .val (.int p4), .val (.int p5), .val (.int p6), .val (.int (p1 &&& (2147483647 : Int32))), .val (.int ((1 : Int32) <<< (((p3 &&& (2147483647 : Int32)) % (17 : Int32)) &&& 31))), .unset, .unset, .unset, .unset, .unset, .unset, .unset, .unset]) X0 hx (hb hby at_15) (q := 17) rfl rfl ?_
  refine own_iloadN X0 hx (hb hby at_17) (q := 18) rfl rfl ?_
  refine own_iload X0 hx (hb hby at_18) (q := 20) rfl rfl ?_
  refine own_iconst X0 hx (v := (1 : Int32)) (hb hby at_20) (q := 21) rfl rfl ?_
  refine own_isub X0 hx (hb hby at_21) (q := 22) rfl ?_
  refine own_iand X0 hx (hb hby at_22) (q := 23) rfl ?_
  refine own_istore (L' := #[.val (.int p1), .val (.int p2), .val (.int p3), .val (.int p4), .val (.int p5), .val (.int p6), .val (.int (p1 &&& (2147483647 : Int32))), .val (.int ((1 : Int32) <<< (((p3 &&& (2147483647 : Int32)) % (17 : Int32)) &&& 31))), .val (.int (p2 &&& (((1 : Int32) <<< (((p3 &&& (2147483647 : Int32)) % (17 : Int32)) &&& 31)) - (1 : Int32)))), .unset, .unset, .unset, .unset, .unset, .unset, .unset]) X0 hx (hb hby at_23) (q := 25) rfl rfl ?_
  refine own_iload X0 hx (hb hby at_25) (q := 27) rfl rfl ?_
  refine own_iconst X0 hx (v := (1 : Int32)) (hb hby at_27) (q := 28) rfl rfl ?_
  refine own_iand X0 hx (hb hby at_28) (q := 29) rfl ?_
  have J184 : ∀ (z183 : Int32), z183 = (if (p6 &&& (1 : Int32)) = (0 : Int32) then p4 &&& (2147483647 : Int32) else p1 &&& (2147483647 : Int32)) → own_Go p e below s 16 128 (own_Q0 n0) (s₁.setTop (mkF m 41 #[.val (.int p1), .val (.int p2), .val (.int p3), .val (.int p4), .val (.int p5), .val (.int p6), .val (.int (p1 &&& (2147483647 : Int32))), .val (.int ((1 : Int32) <<< (((p3 &&& (2147483647 : Int32)) % (17 : Int32)) &&& 31))), .val (.int (p2 &&& (((1 : Int32) <<< (((p3 &&& (2147483647 : Int32)) % (17 : Int32)) &&& 31)) - (1 : Int32)))), .unset, .unset, .unset, .unset, .unset, .unset, .unset] [.int z183])) := by
    intro z183 hz189
    have ok1 := own_z1 _ _ _ _ hz189
    refine own_istore (L' := #[.val (.int p1), .val (.int p2), .val (.int p3), .val (.int p4), .val (.int p5), .val (.int p6), .val (.int (p1 &&& (2147483647 : Int32))), .val (.int ((1 : Int32) <<< (((p3 &&& (2147483647 : Int32)) % (17 : Int32)) &&& 31))), .val (.int (p2 &&& (((1 : Int32) <<< (((p3 &&& (2147483647 : Int32)) % (17 : Int32)) &&& 31)) - (1 : Int32)))), .val (.int z183), .unset, .unset, .unset, .unset, .unset, .unset]) X0 hx (hb hby at_41) (q := 43) rfl rfl ?_
    refine own_iload X0 hx (hb hby at_43) (q := 45) rfl rfl ?_
    refine own_iconst X0 hx (v := (2 : Int32)) (hb hby at_45) (q := 46) rfl rfl ?_
    refine own_iand X0 hx (hb hby at_46) (q := 47) rfl ?_
    have J191 : ∀ (z190 : Int32), z190 = (if (p6 &&& (2 : Int32)) = (0 : Int32) then (1 : Int32) <<< (((XT.ushr p6 (8 : Int32)) % (17 : Int32)) &&& 31) else (1 : Int32) <<< (((p3 &&& (2147483647 : Int32)) % (17 : Int32)) &&& 31)) → own_Go p e below s 16 128 (own_Q0 n0) (s₁.setTop (mkF m 65 #[.val (.int p1), .val (.int p2), .val (.int p3), .val (.int p4), .val (.int p5), .val (.int p6), .val (.int (p1 &&& (2147483647 : Int32))), .val (.int ((1 : Int32) <<< (((p3 &&& (2147483647 : Int32)) % (17 : Int32)) &&& 31))), .val (.int (p2 &&& (((1 : Int32) <<< (((p3 &&& (2147483647 : Int32)) % (17 : Int32)) &&& 31)) - (1 : Int32)))), .val (.int z183), .unset, .unset, .unset, .unset, .unset, .unset] [.int z190])) := by
      intro z190 hz196
      have ok2 := own_z2 _ _ _ _ (own_fac2 _) (own_fac1 _) hz196
      refine own_istore (L' := #[.val (.int p1), .val (.int p2), .val (.int p3), .val (.int p4), .val (.int p5), .val (.int p6), .val (.int (p1 &&& (2147483647 : Int32))), .val (.int ((1 : Int32) <<< (((p3 &&& (2147483647 : Int32)) % (17 : Int32)) &&& 31))), .val (.int (p2 &&& (((1 : Int32) <<< (((p3 &&& (2147483647 : Int32)) % (17 : Int32)) &&& 31)) - (1 : Int32)))), .val (.int z183), .val (.int z190), .unset, .unset, .unset, .unset, .unset]) X0 hx (hb hby at_65) (q := 67) rfl rfl ?_
      refine own_iload X0 hx (hb hby at_67) (q := 69) rfl rfl ?_
      refine own_iconst X0 hx (v := (4 : Int32)) (hb hby at_69) (q := 70) rfl rfl ?_
      refine own_iand X0 hx (hb hby at_70) (q := 71) rfl ?_
      have J198 : ∀ (z197 : Int32), z197 = (if (p6 &&& (4 : Int32)) = (0 : Int32) then p5 &&& (z190 - (1 : Int32)) else (p2 &&& (((1 : Int32) <<< (((p3 &&& (2147483647 : Int32)) % (17 : Int32)) &&& 31)) - (1 : Int32))) &&& (z190 - (1 : Int32))) → own_Go p e below s 16 128 (own_Q0 n0) (s₁.setTop (mkF m 91 #[.val (.int p1), .val (.int p2), .val (.int p3), .val (.int p4), .val (.int p5), .val (.int p6), .val (.int (p1 &&& (2147483647 : Int32))), .val (.int ((1 : Int32) <<< (((p3 &&& (2147483647 : Int32)) % (17 : Int32)) &&& 31))), .val (.int (p2 &&& (((1 : Int32) <<< (((p3 &&& (2147483647 : Int32)) % (17 : Int32)) &&& 31)) - (1 : Int32)))), .val (.int z183), .val (.int z190), .unset, .unset, .unset, .unset, .unset] [.int z197])) := by
        intro z197 hz203
        have ok3 := own_z3 _ _ _ _ _ ok2 hz203
        refine own_istore (L' := #[.val (.int p1), .val (.int p2), .val (.int p3), .val (.int p4), .val (.int p5), .val (.int p6), .val (.int (p1 &&& (2147483647 : Int32))), .val (.int ((1 : Int32) <<< (((p3 &&& (2147483647 : Int32)) % (17 : Int32)) &&& 31))), .val (.int (p2 &&& (((1 : Int32) <<< (((p3 &&& (2147483647 : Int32)) % (17 : Int32)) &&& 31)) - (1 : Int32)))), .val (.int z183), .val (.int z190), .val (.int z197), .unset, .unset, .unset, .unset]) X0 hx (hb hby at_91) (q := 93) rfl rfl ?_
        refine own_new X0 hx hZ hown (hw _ (List.mem_of_getElem? (i := 1) rfl)) (hw _ (List.mem_of_getElem? (i := 2) rfl)) (hw _ (List.mem_of_getElem? (i := 3) rfl)) e0 (hb hby at_93) (by decide) (by decide) (q := 96) rfl (fun T204 h207 a208 X205 e206 g209 E210 A211 D212 => ?_)
        have S213 := Sta.ext E210 SCS
        have Z214 : n0 ≤ a208 := by rw [g209]; exact Z0
        have Z215 : n0 ≤ h207.size := Nat.le_trans Z0 E210.1
        have F216 : Fld Z h207 a208 "com/example/keys_across_workers/keysacrossworkers/elasticity/VirtualTask" "partition" "I" (.int (0 : Int32)) := D212 (Or.inr (hw _ (List.mem_of_getElem? (i := 23) rfl))) (ty := .int) (by decide)
        have F217 : Fld Z h207 a208 "com/example/keys_across_workers/keysacrossworkers/elasticity/VirtualTask" "bucket" "I" (.int (0 : Int32)) := D212 (Or.inr (hw _ (List.mem_of_getElem? (i := 25) rfl))) (ty := .int) (by decide)
        have F218 : Fld Z h207 a208 "com/example/keys_across_workers/keysacrossworkers/elasticity/VirtualTask" "factor" "I" (.int (0 : Int32)) := D212 (Or.inr (hw _ (List.mem_of_getElem? (i := 27) rfl))) (ty := .int) (by decide)
        refine own_dup X205 hx (hb hby at_96) (q := 97) rfl rfl ?_
        refine own_iload X205 hx (hb hby at_97) (q := 99) rfl rfl ?_
        refine own_iload X205 hx (hb hby at_99) (q := 101) rfl rfl ?_
        refine own_iload X205 hx (hb hby at_101) (q := 103) rfl rfl ?_
        refine own_callC X205 hx hZ hown rfl (hw _ (List.mem_of_getElem? (i := 4) rfl)) (hw _ (List.mem_of_getElem? (i := 5) rfl)) (hw _ (List.mem_of_getElem? (i := 3) rfl)) (hw _ (List.mem_of_getElem? (i := 6) rfl)) (by decide) (rm1 l Z a0 hw [] a208 (p1 &&& (2147483647 : Int32)) (p2 &&& (((1 : Int32) <<< (((p3 &&& (2147483647 : Int32)) % (17 : Int32)) &&& 31)) - (1 : Int32))) ((1 : Int32) <<< (((p3 &&& (2147483647 : Int32)) % (17 : Int32)) &&& 31)) h207 n0 A211 F216 F217 F218 Z214 (own_nn _) (own_fac1 _) (own_bkt (own_fac1 _) _).1 (own_bkt (own_fac1 _) _).2) own_pd5 rfl e206 (by rw [hml]; rfl) (argsL := [.int (p1 &&& (2147483647 : Int32)), .int (p2 &&& (((1 : Int32) <<< (((p3 &&& (2147483647 : Int32)) % (17 : Int32)) &&& 31)) - (1 : Int32))), .int ((1 : Int32) <<< (((p3 &&& (2147483647 : Int32)) % (17 : Int32)) &&& 31))]) (st := [.ref a208]) rfl (W := 1) (Nat.le_of_eq rfl) (by decide) (by decide) (by decide) (by decide) (hb hby at_103) (q := 106) rfl (fun v222 T223 L224 X225 hQ226 => ?_)
        obtain ⟨rfl, N227, K228, E230, F231, F232, F233⟩ := hQ226
        have S234 := own_staKeep S213 K228 (allS (own_exaPlain A211) all0)
        have Z235 : n0 ≤ T223.heap.size := Nat.le_trans Z215 K228.1
        have N229 := Fr.app N0 N227
        show own_Go p e below s 16 128 (own_Q0 n0) (T223.setTop (mkF m 106 #[.val (.int p1), .val (.int p2), .val (.int p3), .val (.int p4), .val (.int p5), .val (.int p6), .val (.int (p1 &&& (2147483647 : Int32))), .val (.int ((1 : Int32) <<< (((p3 &&& (2147483647 : Int32)) % (17 : Int32)) &&& 31))), .val (.int (p2 &&& (((1 : Int32) <<< (((p3 &&& (2147483647 : Int32)) % (17 : Int32)) &&& 31)) - (1 : Int32)))), .val (.int z183), .val (.int z190), .val (.int z197), .unset, .unset, .unset, .unset] [.ref a208]))
        refine own_astore (L' := #[.val (.int p1), .val (.int p2), .val (.int p3), .val (.int p4), .val (.int p5), .val (.int p6), .val (.int (p1 &&& (2147483647 : Int32))), .val (.int ((1 : Int32) <<< (((p3 &&& (2147483647 : Int32)) % (17 : Int32)) &&& 31))), .val (.int (p2 &&& (((1 : Int32) <<< (((p3 &&& (2147483647 : Int32)) % (17 : Int32)) &&& 31)) - (1 : Int32)))), .val (.int z183), .val (.int z190), .val (.int z197), .val (.ref a208), .unset, .unset, .unset]) X225 hx (hb hby at_106) (q := 108) rfl rfl rfl ?_
        refine own_new X225 hx hZ hown (hw _ (List.mem_of_getElem? (i := 1) rfl)) (hw _ (List.mem_of_getElem? (i := 2) rfl)) (hw _ (List.mem_of_getElem? (i := 3) rfl)) rfl (hb hby at_108) (by decide) (by decide) (q := 111) rfl (fun T236 h239 a240 X237 e238 g241 E242 A243 D244 => ?_)
        have S245 := Sta.ext E242 S234
        have E246 := Exa.ext E242 E230
        have F247 := Fld.ext E242 F231
        have F248 := Fld.ext E242 F232
        have F249 := Fld.ext E242 F233
        have ne250 : a208 ≠ a240 := by rw [g241]; exact Nat.ne_of_lt E230.lt
        have Z251 : n0 ≤ a240 := by rw [g241]; exact Z235
        have Z252 : n0 ≤ h239.size := Nat.le_trans Z235 E242.1
        have F253 : Fld Z h239 a240 "com/example/keys_across_workers/keysacrossworkers/elasticity/VirtualTask" "partition" "I" (.int (0 : Int32)) := D244 (Or.inr (hw _ (List.mem_of_getElem? (i := 23) rfl))) (ty := .int) (by decide)
        have F254 : Fld Z h239 a240 "com/example/keys_across_workers/keysacrossworkers/elasticity/VirtualTask" "bucket" "I" (.int (0 : Int32)) := D244 (Or.inr (hw _ (List.mem_of_getElem? (i := 25) rfl))) (ty := .int) (by decide)
        have F255 : Fld Z h239 a240 "com/example/keys_across_workers/keysacrossworkers/elasticity/VirtualTask" "factor" "I" (.int (0 : Int32)) := D244 (Or.inr (hw _ (List.mem_of_getElem? (i := 27) rfl))) (ty := .int) (by decide)
        refine own_dup X237 hx (hb hby at_111) (q := 112) rfl rfl ?_
        refine own_iload X237 hx (hb hby at_112) (q := 114) rfl rfl ?_
        refine own_iload X237 hx (hb hby at_114) (q := 116) rfl rfl ?_
        refine own_iload X237 hx (hb hby at_116) (q := 118) rfl rfl ?_
        refine own_callC X237 hx hZ hown rfl (hw _ (List.mem_of_getElem? (i := 4) rfl)) (hw _ (List.mem_of_getElem? (i := 5) rfl)) (hw _ (List.mem_of_getElem? (i := 3) rfl)) (hw _ (List.mem_of_getElem? (i := 6) rfl)) (by decide) (rm1 l Z a0 hw [] a240 z183 z197 z190 h239 n0 A243 F253 F254 F255 Z251 ok1 ok2 ok3.1 ok3.2) own_pd5 rfl e238 (by rw [hml]; rfl) (argsL := [.int z183, .int z197, .int z190]) (st := [.ref a240]) rfl (W := 1) (Nat.le_of_eq rfl) (by decide) (by decide) (by decide) (by decide) (hb hby at_118) (q := 121) rfl (fun v259 T260 L261 X262 hQ263 => ?_)
        obtain ⟨rfl, N264, K265, E267, F268, F269, F270⟩ := hQ263
        have S271 := own_staKeep S245 K265 (allS (own_exaPlain A243) all0)
        have E272 := E246.keep K265
        have F273 := F247.keep K265 (ninS ne250 nin0)
        have F274 := F248.keep K265 (ninS ne250 nin0)
        have F275 := F249.keep K265 (ninS ne250 nin0)
        have Z276 : n0 ≤ T260.heap.size := Nat.le_trans Z252 K265.1
        have N266 := Fr.app N229 N264
        show own_Go p e below s 16 128 (own_Q0 n0) (T260.setTop (mkF m 121 #[.val (.int p1), .val (.int p2), .val (.int p3), .val (.int p4), .val (.int p5), .val (.int p6), .val (.int (p1 &&& (2147483647 : Int32))), .val (.int ((1 : Int32) <<< (((p3 &&& (2147483647 : Int32)) % (17 : Int32)) &&& 31))), .val (.int (p2 &&& (((1 : Int32) <<< (((p3 &&& (2147483647 : Int32)) % (17 : Int32)) &&& 31)) - (1 : Int32)))), .val (.int z183), .val (.int z190), .val (.int z197), .val (.ref a208), .unset, .unset, .unset] [.ref a240]))
        refine own_astore (L' := #[.val (.int p1), .val (.int p2), .val (.int p3), .val (.int p4), .val (.int p5), .val (.int p6), .val (.int (p1 &&& (2147483647 : Int32))), .val (.int ((1 : Int32) <<< (((p3 &&& (2147483647 : Int32)) % (17 : Int32)) &&& 31))), .val (.int (p2 &&& (((1 : Int32) <<< (((p3 &&& (2147483647 : Int32)) % (17 : Int32)) &&& 31)) - (1 : Int32)))), .val (.int z183), .val (.int z190), .val (.int z197), .val (.ref a208), .val (.ref a240), .unset, .unset]) X262 hx (hb hby at_121) (q := 123) rfl rfl rfl ?_
        refine own_iload X262 hx (hb hby at_123) (q := 125) rfl rfl ?_
        refine own_iconst X262 hx (v := (4 : Int32)) (hb hby at_125) (q := 126) rfl rfl ?_
        refine own_iushr X262 hx (hb hby at_126) (q := 127) rfl ?_
        refine own_iconst X262 hx (v := (3 : Int32)) (hb hby at_127) (q := 128) rfl rfl ?_
        refine own_iand X262 hx (hb hby at_128) (q := 129) rfl ?_
        refine own_istore (L' := #[.val (.int p1), .val (.int p2), .val (.int p3), .val (.int p4), .val (.int p5), .val (.int p6), .val (.int (p1 &&& (2147483647 : Int32))), .val (.int ((1 : Int32) <<< (((p3 &&& (2147483647 : Int32)) % (17 : Int32)) &&& 31))), .val (.int (p2 &&& (((1 : Int32) <<< (((p3 &&& (2147483647 : Int32)) % (17 : Int32)) &&& 31)) - (1 : Int32)))), .val (.int z183), .val (.int z190), .val (.int z197), .val (.ref a208), .val (.ref a240), .val (.int ((XT.ushr p6 (4 : Int32)) &&& (3 : Int32))), .unset]) X262 hx (hb hby at_129) (q := 131) rfl rfl ?_
        refine own_iload X262 hx (hb hby at_131) (q := 133) rfl rfl ?_
        refine own_if0M X262 hx (hb hby at_133) (cd := .ne) (x := (XT.ushr p6 (4 : Int32)) &&& (3 : Int32)) (pt := 194) (q := 136) (by decide) (by decide) rfl rfl (fun (c4 : ¬ (((XT.ushr p6 (4 : Int32)) &&& (3 : Int32)) = (0 : Int32))) => ?_) (fun (c4 : ((XT.ushr p6 (4 : Int32)) &&& (3 : Int32)) = (0 : Int32)) => ?_)
        · refine own_iload X262 hx (hb hby at_194) (q := 196) rfl rfl ?_
          refine own_iconst X262 hx (v := (1 : Int32)) (hb hby at_196) (q := 197) rfl rfl ?_
          refine own_icmpM X262 hx (hb hby at_197) (cd := .ne) (x := (XT.ushr p6 (4 : Int32)) &&& (3 : Int32)) (y := (1 : Int32)) (pt := 215) (q := 200) (by decide) (by decide) rfl rfl (fun (c5 : ¬ (((XT.ushr p6 (4 : Int32)) &&& (3 : Int32)) = (1 : Int32))) => ?_) (fun (c5 : ((XT.ushr p6 (4 : Int32)) &&& (3 : Int32)) = (1 : Int32)) => ?_)
          · refine own_iload X262 hx (hb hby at_215) (q := 217) rfl rfl ?_
            refine own_iconst X262 hx (v := (2 : Int32)) (hb hby at_217) (q := 218) rfl rfl ?_
            refine own_icmpM X262 hx (hb hby at_218) (cd := .ne) (x := (XT.ushr p6 (4 : Int32)) &&& (3 : Int32)) (y := (2 : Int32)) (pt := 249) (q := 221) (by decide) (by decide) rfl rfl (fun (c6 : ¬ (((XT.ushr p6 (4 : Int32)) &&& (3 : Int32)) = (2 : Int32))) => ?_) (fun (c6 : ((XT.ushr p6 (4 : Int32)) &&& (3 : Int32)) = (2 : Int32)) => ?_)
            · refine own_aload X262 hx (hb hby at_249) (q := 251) rfl rfl rfl ?_
              refine own_aload X262 hx (hb hby at_251) (q := 253) rfl rfl rfl ?_
              refine own_callVP X262 hx hZ hown (hw _ (List.mem_of_getElem? (i := 28) rfl)) (hw _ (List.mem_of_getElem? (i := 29) rfl)) (hw _ (List.mem_of_getElem? (i := 31) rfl)) (hw _ (List.mem_of_getElem? (i := 31) rfl)) (hw _ (List.mem_of_getElem? (i := 30) rfl)) (hw _ (List.mem_of_getElem? (i := 3) rfl)) (hw _ (List.mem_of_getElem? (i := 32) rfl)) E272 (by decide) (rm5_o l Z a0 hw [] a208 a208 (p1 &&& (2147483647 : Int32)) (p2 &&& (((1 : Int32) <<< (((p3 &&& (2147483647 : Int32)) % (17 : Int32)) &&& 31)) - (1 : Int32))) ((1 : Int32) <<< (((p3 &&& (2147483647 : Int32)) % (17 : Int32)) &&& 31)) (p1 &&& (2147483647 : Int32)) (p2 &&& (((1 : Int32) <<< (((p3 &&& (2147483647 : Int32)) % (17 : Int32)) &&& 31)) - (1 : Int32))) ((1 : Int32) <<< (((p3 &&& (2147483647 : Int32)) % (17 : Int32)) &&& 31)) T260.heap F273 F274 F275 E272 F273 F274 F275) own_pd6 rfl rfl (by rw [hml]; rfl) (argsL := [.ref a208]) (st := []) rfl (W := 0) (Nat.le_of_eq rfl) (by decide) (by decide) (by decide) (by decide) (hb hby at_253) (q := 256) rfl (fun T277 X278 e279 => ?_)
              refine own_retN X278 hx hlk (t := .boolean) (by simp) Bd.returns (hb hby at_256) ?_ (by decide) (by decide)
              exact ⟨by rw [own_self]; rfl, N266⟩
            · refine own_iload X262 hx (hb hby at_221) (q := 223) rfl rfl ?_
              refine own_sipush X262 hx (v := (255 : Int32)) (hb hby at_223) (q := 226) rfl rfl ?_
              refine own_iand X262 hx (hb hby at_226) (q := 227) rfl ?_
              refine own_i2c X262 hx (hb hby at_227) (q := 228) rfl ?_
              refine own_callS X262 hx hZ hown (hw _ (List.mem_of_getElem? (i := 35) rfl)) (hw _ (List.mem_of_getElem? (i := 36) rfl)) (hw _ (List.mem_of_getElem? (i := 37) rfl)) (hw _ (List.mem_of_getElem? (i := 38) rfl)) (by decide) (rm6 l Z a0 hw [] ((p5 &&& (255 : Int32)).toUInt32.toUInt16.toUInt32.toInt32) cs T260.heap n0 Z276 S271 PCS (own_c255 _)) own_pd7 rfl rfl (by rw [hml]; rfl) (argsL := [.int ((p5 &&& (255 : Int32)).toUInt32.toUInt16.toUInt32.toInt32)]) (st := []) rfl (W := 0) (Nat.le_of_eq rfl) (by decide) (by decide) (by decide) (by decide) (hb hby at_228) (q := 231) rfl (fun v286 T287 L288 X289 hQ290 => ?_)
              obtain ⟨a294, rfl, N291, K292, O295, E296⟩ := hQ290
              have S297 := own_staKeep S271 K292 all0
              have E298 := E272.keep K292
              have F299 := F273.keep K292 nin0
              have F300 := F274.keep K292 nin0
              have F301 := F275.keep K292 nin0
              have E302 := E267.keep K292
              have F303 := F268.keep K292 nin0
              have F304 := F269.keep K292 nin0
              have F305 := F270.keep K292 nin0
              have Z306 : n0 ≤ T287.heap.size := Nat.le_trans Z276 K292.1
              have N293 := Fr.app N266 N291
              have ne307 : a208 ≠ a294 := Nat.ne_of_lt (Nat.lt_of_lt_of_le E272.lt O295)
              have ne308 : a240 ≠ a294 := Nat.ne_of_lt (Nat.lt_of_lt_of_le E267.lt O295)
              have Z309 : n0 ≤ a294 := Nat.le_trans Z276 O295
              show own_Go p e below s 16 128 (own_Q0 n0) (T287.setTop (mkF m 231 #[.val (.int p1), .val (.int p2), .val (.int p3), .val (.int p4), .val (.int p5), .val (.int p6), .val (.int (p1 &&& (2147483647 : Int32))), .val (.int ((1 : Int32) <<< (((p3 &&& (2147483647 : Int32)) % (17 : Int32)) &&& 31))), .val (.int (p2 &&& (((1 : Int32) <<< (((p3 &&& (2147483647 : Int32)) % (17 : Int32)) &&& 31)) - (1 : Int32)))), .val (.int z183), .val (.int z190), .val (.int z197), .val (.ref a208), .val (.ref a240), .val (.int ((XT.ushr p6 (4 : Int32)) &&& (3 : Int32))), .unset] [.ref a294]))
              refine own_astore (L' := #[.val (.int p1), .val (.int p2), .val (.int p3), .val (.int p4), .val (.int p5), .val (.int p6), .val (.int (p1 &&& (2147483647 : Int32))), .val (.int ((1 : Int32) <<< (((p3 &&& (2147483647 : Int32)) % (17 : Int32)) &&& 31))), .val (.int (p2 &&& (((1 : Int32) <<< (((p3 &&& (2147483647 : Int32)) % (17 : Int32)) &&& 31)) - (1 : Int32)))), .val (.int z183), .val (.int z190), .val (.int z197), .val (.ref a208), .val (.ref a240), .val (.int ((XT.ushr p6 (4 : Int32)) &&& (3 : Int32))), .val (.ref a294)]) X289 hx (hb hby at_231) (q := 233) rfl rfl rfl ?_
              refine own_aload X289 hx (hb hby at_233) (q := 235) rfl rfl rfl ?_
              refine own_aload X289 hx (hb hby at_235) (q := 237) rfl rfl rfl ?_
              refine own_callVP X289 hx hZ hown (hw _ (List.mem_of_getElem? (i := 28) rfl)) (hw _ (List.mem_of_getElem? (i := 29) rfl)) (hw _ (List.mem_of_getElem? (i := 31) rfl)) (hw _ (List.mem_of_getElem? (i := 31) rfl)) (hw _ (List.mem_of_getElem? (i := 30) rfl)) (hw _ (List.mem_of_getElem? (i := 3) rfl)) (hw _ (List.mem_of_getElem? (i := 32) rfl)) E298 (by decide) (rm5_s l Z a0 hw [] a208 a294 T287.heap E296) own_pd6 rfl rfl (by rw [hml]; rfl) (argsL := [.ref a294]) (st := []) rfl (W := 0) (Nat.le_of_eq rfl) (by decide) (by decide) (by decide) (by decide) (hb hby at_237) (q := 240) rfl (fun T310 X311 e312 => ?_)
              refine own_if0M X311 hx (hb hby at_240) (cd := .ne) (x := own_f5_s ) (pt := 247) (q := 243) (by decide) (by decide) rfl rfl (fun h => False.elim (h ((rfl) : (own_f5_s ) = (0 : Int32)))) (fun _ => ?_)
              refine own_iconst X311 hx (v := (1 : Int32)) (hb hby at_243) (q := 244) rfl rfl ?_
              refine own_goto X311 hx (hb hby at_244) (q := 248) (by decide) (by decide) ?_
              refine own_retN X311 hx hlk (t := .boolean) (by simp) Bd.returns (hb hby at_248) ?_ (by decide) (by decide)
              exact ⟨rfl, N293⟩
          · refine own_aload X262 hx (hb hby at_200) (q := 202) rfl rfl rfl ?_
            refine own_aconstNull X262 hx (hb hby at_202) (q := 203) rfl ?_
            refine own_callVP X262 hx hZ hown (hw _ (List.mem_of_getElem? (i := 28) rfl)) (hw _ (List.mem_of_getElem? (i := 29) rfl)) (hw _ (List.mem_of_getElem? (i := 31) rfl)) (hw _ (List.mem_of_getElem? (i := 31) rfl)) (hw _ (List.mem_of_getElem? (i := 30) rfl)) (hw _ (List.mem_of_getElem? (i := 3) rfl)) (hw _ (List.mem_of_getElem? (i := 32) rfl)) E272 (by decide) (rm5_n l Z a0 hw [] a208 T260.heap ) own_pd6 rfl rfl (by rw [hml]; rfl) (argsL := [.null]) (st := []) rfl (W := 0) (Nat.le_of_eq rfl) (by decide) (by decide) (by decide) (by decide) (hb hby at_203) (q := 206) rfl (fun T313 X314 e315 => ?_)
            refine own_if0M X314 hx (hb hby at_206) (cd := .ne) (x := own_f5_n ) (pt := 213) (q := 209) (by decide) (by decide) rfl rfl (fun h => False.elim (h ((rfl) : (own_f5_n ) = (0 : Int32)))) (fun _ => ?_)
            refine own_iconst X314 hx (v := (1 : Int32)) (hb hby at_209) (q := 210) rfl rfl ?_
            refine own_goto X314 hx (hb hby at_210) (q := 214) (by decide) (by decide) ?_
            refine own_retN X314 hx hlk (t := .boolean) (by simp) Bd.returns (hb hby at_214) ?_ (by decide) (by decide)
            exact ⟨rfl, N266⟩
        · refine own_iload X262 hx (hb hby at_136) (q := 138) rfl rfl ?_
          refine own_iload X262 hx (hb hby at_138) (q := 140) rfl rfl ?_
          have J317 : ∀ (z316 : Int32), z316 = (if (p1 &&& (2147483647 : Int32)) = z183 then (if (p2 &&& (((1 : Int32) <<< (((p3 &&& (2147483647 : Int32)) % (17 : Int32)) &&& 31)) - (1 : Int32))) = z197 then (if ((1 : Int32) <<< (((p3 &&& (2147483647 : Int32)) % (17 : Int32)) &&& 31)) = z190 then (1 : Int32) else (0 : Int32)) else (0 : Int32)) else (0 : Int32)) → own_Go p e below s 16 128 (own_Q0 n0) (T260.setTop (mkF m 162 #[.val (.int p1), .val (.int p2), .val (.int p3), .val (.int p4), .val (.int p5), .val (.int p6), .val (.int (p1 &&& (2147483647 : Int32))), .val (.int ((1 : Int32) <<< (((p3 &&& (2147483647 : Int32)) % (17 : Int32)) &&& 31))), .val (.int (p2 &&& (((1 : Int32) <<< (((p3 &&& (2147483647 : Int32)) % (17 : Int32)) &&& 31)) - (1 : Int32)))), .val (.int z183), .val (.int z190), .val (.int z197), .val (.ref a208), .val (.ref a240), .val (.int ((XT.ushr p6 (4 : Int32)) &&& (3 : Int32))), .unset] [.int z316])) := by
            intro z316 hz322
            refine own_istore (L' := #[.val (.int p1), .val (.int p2), .val (.int p3), .val (.int p4), .val (.int p5), .val (.int p6), .val (.int (p1 &&& (2147483647 : Int32))), .val (.int ((1 : Int32) <<< (((p3 &&& (2147483647 : Int32)) % (17 : Int32)) &&& 31))), .val (.int (p2 &&& (((1 : Int32) <<< (((p3 &&& (2147483647 : Int32)) % (17 : Int32)) &&& 31)) - (1 : Int32)))), .val (.int z183), .val (.int z190), .val (.int z197), .val (.ref a208), .val (.ref a240), .val (.int ((XT.ushr p6 (4 : Int32)) &&& (3 : Int32))), .val (.int z316)]) X262 hx (hb hby at_162) (q := 164) rfl rfl ?_
            refine own_aload X262 hx (hb hby at_164) (q := 166) rfl rfl rfl ?_
            refine own_aload X262 hx (hb hby at_166) (q := 168) rfl rfl rfl ?_
            refine own_callVP X262 hx hZ hown (hw _ (List.mem_of_getElem? (i := 28) rfl)) (hw _ (List.mem_of_getElem? (i := 29) rfl)) (hw _ (List.mem_of_getElem? (i := 31) rfl)) (hw _ (List.mem_of_getElem? (i := 31) rfl)) (hw _ (List.mem_of_getElem? (i := 30) rfl)) (hw _ (List.mem_of_getElem? (i := 3) rfl)) (hw _ (List.mem_of_getElem? (i := 32) rfl)) E272 (by decide) (rm5_o l Z a0 hw [] a208 a240 (p1 &&& (2147483647 : Int32)) (p2 &&& (((1 : Int32) <<< (((p3 &&& (2147483647 : Int32)) % (17 : Int32)) &&& 31)) - (1 : Int32))) ((1 : Int32) <<< (((p3 &&& (2147483647 : Int32)) % (17 : Int32)) &&& 31)) z183 z197 z190 T260.heap F273 F274 F275 E267 F268 F269 F270) own_pd6 rfl rfl (by rw [hml]; rfl) (argsL := [.ref a240]) (st := []) rfl (W := 0) (Nat.le_of_eq rfl) (by decide) (by decide) (by decide) (by decide) (hb hby at_168) (q := 171) rfl (fun T323 X324 e325 => ?_)
            refine own_iload X324 hx (hb hby at_171) (q := 173) rfl rfl ?_
            refine own_icmpM X324 hx (hb hby at_173) (cd := .ne) (x := own_f5_o (p1 &&& (2147483647 : Int32)) (p2 &&& (((1 : Int32) <<< (((p3 &&& (2147483647 : Int32)) % (17 : Int32)) &&& 31)) - (1 : Int32))) ((1 : Int32) <<< (((p3 &&& (2147483647 : Int32)) % (17 : Int32)) &&& 31)) z183 z197 z190) (y := z316) (pt := 192) (q := 176) (by decide) (by decide) rfl rfl (fun h => False.elim (h ((by rw [hz322]; rfl) : (own_f5_o (p1 &&& (2147483647 : Int32)) (p2 &&& (((1 : Int32) <<< (((p3 &&& (2147483647 : Int32)) % (17 : Int32)) &&& 31)) - (1 : Int32))) ((1 : Int32) <<< (((p3 &&& (2147483647 : Int32)) % (17 : Int32)) &&& 31)) z183 z197 z190) = z316))) (fun _ => ?_)
            refine own_aload X324 hx (hb hby at_176) (q := 178) rfl rfl rfl ?_
            refine own_aload X324 hx (hb hby at_178) (q := 180) rfl rfl rfl ?_
            refine own_callVP X324 hx hZ hown (hw _ (List.mem_of_getElem? (i := 28) rfl)) (hw _ (List.mem_of_getElem? (i := 29) rfl)) (hw _ (List.mem_of_getElem? (i := 31) rfl)) (hw _ (List.mem_of_getElem? (i := 31) rfl)) (hw _ (List.mem_of_getElem? (i := 30) rfl)) (hw _ (List.mem_of_getElem? (i := 3) rfl)) (hw _ (List.mem_of_getElem? (i := 32) rfl)) E267 (by decide) (rm5_o l Z a0 hw [] a240 a208 z183 z197 z190 (p1 &&& (2147483647 : Int32)) (p2 &&& (((1 : Int32) <<< (((p3 &&& (2147483647 : Int32)) % (17 : Int32)) &&& 31)) - (1 : Int32))) ((1 : Int32) <<< (((p3 &&& (2147483647 : Int32)) % (17 : Int32)) &&& 31)) T260.heap F268 F269 F270 E272 F273 F274 F275) own_pd6 rfl e325 (by rw [hml]; rfl) (argsL := [.ref a208]) (st := []) rfl (W := 0) (Nat.le_of_eq rfl) (by decide) (by decide) (by decide) (by decide) (hb hby at_180) (q := 183) rfl (fun T326 X327 e328 => ?_)
            refine own_iload X327 hx (hb hby at_183) (q := 185) rfl rfl ?_
            refine own_icmpM X327 hx (hb hby at_185) (cd := .ne) (x := own_f5_o z183 z197 z190 (p1 &&& (2147483647 : Int32)) (p2 &&& (((1 : Int32) <<< (((p3 &&& (2147483647 : Int32)) % (17 : Int32)) &&& 31)) - (1 : Int32))) ((1 : Int32) <<< (((p3 &&& (2147483647 : Int32)) % (17 : Int32)) &&& 31))) (y := z316) (pt := 192) (q := 188) (by decide) (by decide) rfl rfl (fun h => False.elim (h ((by rw [own_sym, hz322]; rfl) : (own_f5_o z183 z197 z190 (p1 &&& (2147483647 : Int32)) (p2 &&& (((1 : Int32) <<< (((p3 &&& (2147483647 : Int32)) % (17 : Int32)) &&& 31)) - (1 : Int32))) ((1 : Int32) <<< (((p3 &&& (2147483647 : Int32)) % (17 : Int32)) &&& 31))) = z316))) (fun _ => ?_)
            refine own_iconst X327 hx (v := (1 : Int32)) (hb hby at_188) (q := 189) rfl rfl ?_
            refine own_goto X327 hx (hb hby at_189) (q := 193) (by decide) (by decide) ?_
            refine own_retN X327 hx hlk (t := .boolean) (by simp) Bd.returns (hb hby at_193) ?_ (by decide) (by decide)
            exact ⟨rfl, N266⟩
          refine own_icmpM X262 hx (hb hby at_140) (cd := .ne) (x := p1 &&& (2147483647 : Int32)) (y := z183) (pt := 161) (q := 143) (by decide) (by decide) rfl rfl (fun (c12 : ¬ ((p1 &&& (2147483647 : Int32)) = z183)) => ?_) (fun (c12 : (p1 &&& (2147483647 : Int32)) = z183) => ?_)
          · refine own_iconst X262 hx (v := (0 : Int32)) (hb hby at_161) (q := 162) rfl rfl ?_
            exact J317 _ (by rw [if_neg c12])
          · refine own_iload X262 hx (hb hby at_143) (q := 145) rfl rfl ?_
            refine own_iload X262 hx (hb hby at_145) (q := 147) rfl rfl ?_
            refine own_icmpM X262 hx (hb hby at_147) (cd := .ne) (x := p2 &&& (((1 : Int32) <<< (((p3 &&& (2147483647 : Int32)) % (17 : Int32)) &&& 31)) - (1 : Int32))) (y := z197) (pt := 161) (q := 150) (by decide) (by decide) rfl rfl (fun (c13 : ¬ ((p2 &&& (((1 : Int32) <<< (((p3 &&& (2147483647 : Int32)) % (17 : Int32)) &&& 31)) - (1 : Int32))) = z197)) => ?_) (fun (c13 : (p2 &&& (((1 : Int32) <<< (((p3 &&& (2147483647 : Int32)) % (17 : Int32)) &&& 31)) - (1 : Int32))) = z197) => ?_)
            · refine own_iconst X262 hx (v := (0 : Int32)) (hb hby at_161) (q := 162) rfl rfl ?_
              exact J317 _ (by rw [if_pos c12, if_neg c13])
            · refine own_iload X262 hx (hb hby at_150) (q := 152) rfl rfl ?_
              refine own_iload X262 hx (hb hby at_152) (q := 154) rfl rfl ?_
              refine own_icmpM X262 hx (hb hby at_154) (cd := .ne) (x := (1 : Int32) <<< (((p3 &&& (2147483647 : Int32)) % (17 : Int32)) &&& 31)) (y := z190) (pt := 161) (q := 157) (by decide) (by decide) rfl rfl (fun (c14 : ¬ (((1 : Int32) <<< (((p3 &&& (2147483647 : Int32)) % (17 : Int32)) &&& 31)) = z190)) => ?_) (fun (c14 : ((1 : Int32) <<< (((p3 &&& (2147483647 : Int32)) % (17 : Int32)) &&& 31)) = z190) => ?_)
              · refine own_iconst X262 hx (v := (0 : Int32)) (hb hby at_161) (q := 162) rfl rfl ?_
                exact J317 _ (by rw [if_pos c12, if_pos c13, if_neg c14])
              · refine own_iconst X262 hx (v := (1 : Int32)) (hb hby at_157) (q := 158) rfl rfl ?_
                refine own_goto X262 hx (hb hby at_158) (q := 162) (by decide) (by decide) ?_
                exact J317 _ (by rw [if_pos c12, if_pos c13, if_pos c14])
      refine own_if0P X0 hx (hb hby at_71) (cd := .eq) (x := p6 &&& (4 : Int32)) (pt := 84) (q := 74) (by decide) (by decide) rfl rfl (fun (c15 : (p6 &&& (4 : Int32)) = (0 : Int32)) => ?_) (fun (c15 : ¬ ((p6 &&& (4 : Int32)) = (0 : Int32))) => ?_)
      · refine own_iload X0 hx (hb hby at_84) (q := 86) rfl rfl ?_
        refine own_iload X0 hx (hb hby at_86) (q := 88) rfl rfl ?_
        refine own_iconst X0 hx (v := (1 : Int32)) (hb hby at_88) (q := 89) rfl rfl ?_
        refine own_isub X0 hx (hb hby at_89) (q := 90) rfl ?_
        refine own_iand X0 hx (hb hby at_90) (q := 91) rfl ?_
        exact J198 _ (by rw [if_pos c15])
      · refine own_iload X0 hx (hb hby at_74) (q := 76) rfl rfl ?_
        refine own_iload X0 hx (hb hby at_76) (q := 78) rfl rfl ?_
        refine own_iconst X0 hx (v := (1 : Int32)) (hb hby at_78) (q := 79) rfl rfl ?_
        refine own_isub X0 hx (hb hby at_79) (q := 80) rfl ?_
        refine own_iand X0 hx (hb hby at_80) (q := 81) rfl ?_
        refine own_goto X0 hx (hb hby at_81) (q := 91) (by decide) (by decide) ?_
        exact J198 _ (by rw [if_neg c15])
    refine own_if0P X0 hx (hb hby at_47) (cd := .eq) (x := p6 &&& (2 : Int32)) (pt := 55) (q := 50) (by decide) (by decide) rfl rfl (fun (c16 : (p6 &&& (2 : Int32)) = (0 : Int32)) => ?_) (fun (c16 : ¬ ((p6 &&& (2 : Int32)) = (0 : Int32))) => ?_)
    · refine own_iconst X0 hx (v := (1 : Int32)) (hb hby at_55) (q := 56) rfl rfl ?_
      refine own_iload X0 hx (hb hby at_56) (q := 58) rfl rfl ?_
      refine own_bipush X0 hx (v := (8 : Int32)) (hb hby at_58) (q := 60) rfl rfl ?_
      refine own_iushr X0 hx (hb hby at_60) (q := 61) rfl ?_
      refine own_bipush X0 hx (v := (17 : Int32)) (hb hby at_61) (q := 63) rfl rfl ?_
      refine own_irem X0 hx (hb hby at_63) (q := 64) rfl (by decide) ?_
      refine own_ishl X0 hx (hb hby at_64) (q := 65) rfl ?_
      exact J191 _ (by rw [if_pos c16])
    · refine own_iload X0 hx (hb hby at_50) (q := 52) rfl rfl ?_
      refine own_goto X0 hx (hb hby at_52) (q := 65) (by decide) (by decide) ?_
      exact J191 _ (by rw [if_neg c16])
  refine own_if0P X0 hx (hb hby at_29) (cd := .eq) (x := p6 &&& (1 : Int32)) (pt := 37) (q := 32) (by decide) (by decide) rfl rfl (fun (c17 : (p6 &&& (1 : Int32)) = (0 : Int32)) => ?_) (fun (c17 : ¬ ((p6 &&& (1 : Int32)) = (0 : Int32))) => ?_)
  · refine own_iloadN X0 hx (hb hby at_37) (q := 38) rfl rfl ?_
    refine own_ldc X0 hx hZ hown (hw _ (List.mem_of_getElem? (i := 0) rfl)) (hb hby at_38) (q := 40) rfl ?_
    refine own_iand X0 hx (hb hby at_40) (q := 41) rfl ?_
    exact J184 _ (by rw [if_pos c17])
  · refine own_iload X0 hx (hb hby at_32) (q := 34) rfl rfl ?_
    refine own_goto X0 hx (hb hby at_34) (q := 41) (by decide) (by decide) ?_
    exact J184 _ (by rw [if_neg c17])
set_option maxRecDepth 65536 in
set_option maxHeartbeats 40000000 in
theorem comes_1 {Post : Tables → Env → Array Value → State → Outcome → State → Prop} (hpost : ∀ tb e args s v u, (limb_1_1.after args s (.returned v) u = true ∧ limb_1_2.after args s (.returned v) u = true ∧ True) → FrameEnd s (.returned v) u (Jvm.fieldLocs frame_1_writes args s ++ Jvm.arrayLocs frame_1_arrays args s ++ Jvm.staticLocs frame_1_statics s) 16 128 → Post tb e args s (.returned v) u) :
    ArmFor flags0 classFile x code maxLocals ret World_1 tables_1 room_1 Calls_1 rest_1 Pre_1 Post := by
  intro l hfl _ _ p e ha hc hk s m args below hf hA hF happ hP
  obtain ⟨hcalls, hrest, hpre⟩ := hP
  obtain ⟨-, -, -, hnamed, -, -, -, hat⟩ := (Spec.applies_iff hf).mp happ
  obtain ⟨hg, hn⟩ := and_e (Cond.before_iff.mp (show (Jvm.Cond.and given_1 narrow_1).before args s = true from hpre))
  obtain ⟨h1, g0⟩ := and_e hg
  obtain ⟨k0, g1⟩ := and_e g0
  obtain ⟨k1, g2⟩ := and_e g1
  obtain ⟨k2, g3⟩ := and_e g2
  obtain ⟨k3, g4⟩ := and_e g3
  obtain ⟨k4, g5⟩ := and_e g4
  have k5 := g5
  obtain ⟨w0, w1, w2, w3, w4, w5, rfl⟩ : ∃ w0 w1 w2 w3 w4 w5 : Value, args = #[w0, w1, w2, w3, w4, w5] := by
    have hs : args.size = 6 := by simpa [Cond.value, given_1] using h1
    obtain ⟨L⟩ := args
    match L, hs with
    | [w0, w1, w2, w3, w4, w5], _ => exact ⟨w0, w1, w2, w3, w4, w5, rfl⟩
  have hw := fun d (hd : d ∈ tables_1) => atoms_spec (ws := Jvm.Cond.code x code maxLocals ret :: tables_1) hat d (List.mem_cons_of_mem _ hd)
  have hfit : Fit s := fun {y c} hc i hi => by
    obtain ⟨ha, rfl⟩ := Array.getElem?_eq_some_iff.mp hc
    have q := List.all_eq_true.mp ((Array.all_eq_true_iff_forall_mem.mp hF) _ (Array.getElem_mem ha)) i (List.mem_range.mpr hi)
    simpa [Array.getElem?_eq_getElem hi] using q
  obtain ⟨i0, e0⟩ := is_v k0
  obtain rfl : w0 = (.int i0) := Option.some.inj e0
  obtain ⟨i1, e1⟩ := is_v k1
  obtain rfl : w1 = (.int i1) := Option.some.inj e1
  obtain ⟨i2, e2⟩ := is_v k2
  obtain rfl : w2 = (.int i2) := Option.some.inj e2
  obtain ⟨i3, e3⟩ := is_v k3
  obtain rfl : w3 = (.int i3) := Option.some.inj e3
  obtain ⟨i4, e4⟩ := is_v k4
  obtain rfl : w4 = (.int i4) := Option.some.inj e4
  obtain ⟨i5, e5⟩ := is_v k5
  obtain rfl : w5 = (.int i5) := Option.some.inj e5
  obtain ⟨hsets, hown0⟩ := atoms_of _ (rest_1_c_eq ▸ (show rest_1_c.before _ s = true from hrest))
  have n5 := not_v (Cond.before_iff.mp (hsets _ (List.mem_of_getElem? (i := 2) rfl)))
  obtain ⟨cs, ecs⟩ := is_v (Cond.before_iff.mp (hsets _ (List.mem_of_getElem? (i := 1) rfl)))
  have SCS : Sta s s.heap "java/lang/String" "COMPACT_STRINGS" "Z" (.int cs) := Sta.start ecs (Or.inl (hsets _ (List.mem_of_getElem? (i := 0) rfl)))
  have PCS : ¬ (cs = (0 : Int32)) := gotF (Cond.eq_ints ecs (Term.int_eval (0))) n5
  obtain ⟨n, o, h1, h2, h3, _, L, rfl, ⟨rfl, N⟩, hq⟩ := rm0 l s _ hw tables_1 i0 i1 i2 i3 i4 i5 s.heap s.heap.size (Nat.le_refl _) SCS PCS p e ha hc hk s m _ below hf ((Spec.applies_iff_loose hf).mp happ).1 ⟨rfl, State.Warmed39.refl s, rfl⟩ trivial
  refine ⟨n, _, h1, h2, h3, hpost _ _ _ _ _ _ ⟨Cond.after_iff.mpr rfl, Cond.after_iff.mpr (eq_i res_at (Term.int_eval (1)) rfl), trivial⟩ ⟨hq.1, hq.2.1, (hq.2.2.sift fun y hy => Or.inr (N y hy)).mono (by decide) (by decide)⟩⟩
theorem main_1_1 : Claimed_1_1 := comes_1 fun _ _ _ _ _ _ h hF => ⟨h.1, hF⟩
theorem main_1_2 : Claimed_1_2 := comes_1 fun _ _ _ _ _ _ h hF => ⟨h.2.1, hF⟩
end Jvm.Pilot.@@N@@
namespace Jvm.Pilot.@@N@@
open Jvm Jvm.ClassFile Sem Op Lib Jvm.Free Jvm.Stand Jvm.Pilot.@@N@@.Jvm.D
/-! MADE BY PROGRAM (witnessworld.py) out of the Statement's table words and the real class files: 21 classes; the members and pool entries that the words name. The judged class is class 1, her method 1. -/
namespace start1
open Jvm.ClassFile
def u (s : String) : CpInfo := .utf8 (stringToUtf16 s)
/-- a pool by its gaps: so many unusable entries, then the entry; so many at the end -/
def gap : Nat → List CpInfo → List CpInfo
  | 0, r => r
  | n + 1, r => .unusable :: gap n r
def poolList (es : List (Nat × CpInfo)) (last : Nat) : List CpInfo := es.foldr (fun e r => gap e.1 (e.2 :: r)) (gap last [])
def pool (es : List (Nat × CpInfo)) (last : Nat) : Array CpInfo := ⟨poolList es last⟩
def fileOf (pool : Array CpInfo) (this : Nat) (attrs : Array Attribute := #[]) (ms : Array MethodInfo := #[]) (fl : Nat := 33) (sup : Nat := 0) (ifs : Array Nat := #[]) (fds : Array FieldInfo := #[]) : ClassFile where
  minorVersion := 0
  majorVersion := 65
  constantPool := pool
  accessFlags := fl
  thisClass := this
  superClass := sup
  interfaces := ifs
  fields := fds
  methods := ms
  attributes := attrs
def plain (name : String) (sup : Option ClassId) : Class where
  name := name
  kind := .ordinary
  loader := none
  accessFlags := 33
  super := sup
  interfaces := #[]
  cf := none
  fields := #[]
  methods := #[]
  instanceTypes := #[]
  staticTypes := #[]
  resolved := #[]
  callSites := []
  init := .initialized
  statics := none
  mirror := none

def pool0 : Array CpInfo := pool [(5, u "<init>"), (0, u "()V"), (1, .class_ 10), (1, u "java/lang/Object")] 113

def k0c0 : Code := { maxStack := 0, maxLocals := 1, code := object_method_1_code, exceptionTable := #[], attributes := #[] }
def k0m0 : Method := { name := "<init>", desc := "()V", sig := { parameters := [], returnType := none }, accessFlags := 1, code := some k0c0 }
/-- java/lang/Object -/
def k0 : Class := { plain "java/lang/Object" none with
  accessFlags := 33
  interfaces := #[]
  cf := some (fileOf pool0 8 #[] #[{ accessFlags := 1, nameIndex := 5, descriptorIndex := 6, attributes := #[] }] 33 0 #[] #[])
  fields := #[]
  methods := #[k0m0]
  instanceTypes := #[]
  staticTypes := #[]
  resolved := Array.replicate 124 none
  statics := none }

def pool1 : Array CpInfo := pool [(2, .class_ 4), (1, u "java/lang/Object"), (0, u "<init>"), (0, u "()V"), (0, .integer 2147483647), (0, .class_ 9), (0, u "com/example/keys_across_workers/keysacrossworkers/elasticity/VirtualTask"), (0, .methodref 8 11), (0, .nameAndType 5 12), (0, u "(III)V"), (0, .methodref 8 14), (0, .nameAndType 15 16), (0, u "equals"), (0, u "(Ljava/lang/Object;)Z"), (0, .methodref 18 19), (0, .class_ 20), (0, .nameAndType 21 22), (0, u "java/lang/String"), (0, u "valueOf"), (0, u "(C)Ljava/lang/String;"), (0, .class_ 24), (0, u "com/example/keys_across_workers/keysacrossworkers/elasticity/VirtualTaskEqualsPinLaw"), (2, u "law"), (0, u "(IIIIII)Z")] 3

def k1m0 : Method := { name := "<init>", desc := "()V", sig := { parameters := [], returnType := none }, accessFlags := 1, code := none }
def k1c1 : Code := { maxStack := 5, maxLocals := 16, code := code, exceptionTable := #[], attributes := #[] }
def k1m1 : Method := { name := "law", desc := "(IIIIII)Z", sig := { parameters := [.int, .int, .int, .int, .int, .int], returnType := some .boolean }, accessFlags := 9, code := some k1c1 }
/-- com/example/keys_across_workers/keysacrossworkers/elasticity/VirtualTaskEqualsPinLaw -/
def k1 : Class := { plain "com/example/keys_across_workers/keysacrossworkers/elasticity/VirtualTaskEqualsPinLaw" (some 0) with
  accessFlags := 49
  interfaces := #[]
  cf := some (fileOf pool1 23 #[] #[{ accessFlags := 1, nameIndex := 5, descriptorIndex := 6, attributes := #[] }, { accessFlags := 9, nameIndex := 27, descriptorIndex := 28, attributes := #[] }] 49 2 #[] #[])
  fields := #[]
  methods := #[k1m0, k1m1]
  instanceTypes := #[]
  staticTypes := #[]
  resolved := Array.replicate 32 none
  statics := none }

def pool2 : Array CpInfo := pool [(1, .methodref 2 3), (0, .class_ 4), (0, .nameAndType 5 6), (0, u "java/lang/Object"), (0, u "<init>"), (0, u "()V"), (9, .methodref 17 18), (0, .class_ 19), (0, .nameAndType 20 21), (0, u "com/example/keys_across_workers/keysacrossworkers/routing/KeyBuckets"), (0, u "checkFactor"), (0, u "(I)V"), (3, .fieldref 26 27), (0, .class_ 28), (0, .nameAndType 29 30), (0, u "com/example/keys_across_workers/keysacrossworkers/elasticity/VirtualTask"), (0, u "partition"), (0, u "I"), (0, .fieldref 26 32), (0, .nameAndType 33 30), (0, u "bucket"), (0, .fieldref 26 35), (0, .nameAndType 36 30), (0, u "factor"), (10, u "NAME"), (0, u "Ljava/util/regex/Pattern;"), (26, u "(III)V"), (36, u "equals"), (0, u "(Ljava/lang/Object;)Z")] 30

def k2c0 : Code := { maxStack := 5, maxLocals := 4, code := prog_10_method_1_code, exceptionTable := #[], attributes := #[] }
def k2m0 : Method := { name := "<init>", desc := "(III)V", sig := { parameters := [.int, .int, .int], returnType := none }, accessFlags := 1, code := some k2c0 }
def k2c1 : Code := { maxStack := 2, maxLocals := 3, code := prog_10_method_7_code, exceptionTable := #[], attributes := #[] }
def k2m1 : Method := { name := "equals", desc := "(Ljava/lang/Object;)Z", sig := { parameters := [(.object "java/lang/Object")], returnType := some .boolean }, accessFlags := 1, code := some k2c1 }
/-- com/example/keys_across_workers/keysacrossworkers/elasticity/VirtualTask -/
def k2 : Class := { plain "com/example/keys_across_workers/keysacrossworkers/elasticity/VirtualTask" (some 0) with
  accessFlags := 33
  interfaces := #[]
  cf := some (fileOf pool2 26 #[] #[{ accessFlags := 1, nameIndex := 5, descriptorIndex := 75, attributes := #[] }, { accessFlags := 1, nameIndex := 112, descriptorIndex := 113, attributes := #[] }] 33 2 #[] #[{ accessFlags := 26, nameIndex := 47, descriptorIndex := 48, attributes := #[] }, { accessFlags := 18, nameIndex := 29, descriptorIndex := 30, attributes := #[] }, { accessFlags := 18, nameIndex := 33, descriptorIndex := 30, attributes := #[] }, { accessFlags := 18, nameIndex := 36, descriptorIndex := 30, attributes := #[] }])
  fields := #[{ name := "NAME", type := (.object "java/util/regex/Pattern"), accessFlags := 26, slot := 0, constantValue := 0 }, { name := "partition", type := .int, accessFlags := 18, slot := 0, constantValue := 0 }, { name := "bucket", type := .int, accessFlags := 18, slot := 1, constantValue := 0 }, { name := "factor", type := .int, accessFlags := 18, slot := 2, constantValue := 0 }]
  methods := #[k2m0, k2m1]
  instanceTypes := #[.int, .int, .int]
  staticTypes := #[(.object "java/util/regex/Pattern")]
  resolved := Array.replicate 144 none
  statics := none }

def pool3 : Array CpInfo := pool [(1, .class_ 2), (0, u "com/example/keys_across_workers/keysacrossworkers/routing/Router"), (10, .class_ 14), (0, u "java/lang/Object"), (0, u "MAX_WORKERS"), (0, u "I"), (2, u "MAX_SOURCES")] 25

/-- com/example/keys_across_workers/keysacrossworkers/routing/Router -/
def k3 : Class := { plain "com/example/keys_across_workers/keysacrossworkers/routing/Router" (some 0) with
  accessFlags := 1537
  interfaces := #[]
  cf := some (fileOf pool3 1 #[] #[] 1537 13 #[] #[{ accessFlags := 25, nameIndex := 15, descriptorIndex := 16, attributes := #[] }, { accessFlags := 25, nameIndex := 19, descriptorIndex := 16, attributes := #[] }])
  fields := #[{ name := "MAX_WORKERS", type := .int, accessFlags := 25, slot := 0, constantValue := 0 }, { name := "MAX_SOURCES", type := .int, accessFlags := 25, slot := 1, constantValue := 0 }]
  methods := #[]
  instanceTypes := #[]
  staticTypes := #[.int, .int]
  resolved := Array.replicate 45 none
  statics := none }

def pool4 : Array CpInfo := pool [(1, .class_ 2), (0, u "com/example/keys_across_workers/keysacrossworkers/routing/Router"), (1, .class_ 6), (1, u "java/lang/Object"), (3, .class_ 12), (1, u "com/example/keys_across_workers/keysacrossworkers/routing/KeyBuckets"), (0, u "checkFactor"), (0, u "(I)V"), (2, u "factor"), (0, u "I"), (6, u "keyGrouping"), (0, u "Lcom/example/keys_across_workers/keysacrossworkers/routing/KeyGrouping;"), (0, .integer 65536), (0, .methodref 29 30), (0, .class_ 31), (0, .nameAndType 32 33), (0, u "java/lang/Integer"), (0, u "bitCount"), (0, u "(I)I"), (17, u "MAX_FACTOR")] 25

def k4c0 : Code := { maxStack := 3, maxLocals := 1, code := prog_20_method_2_code, exceptionTable := #[], attributes := #[] }
def k4m0 : Method := { name := "checkFactor", desc := "(I)V", sig := { parameters := [.int], returnType := none }, accessFlags := 9, code := some k4c0 }
/-- com/example/keys_across_workers/keysacrossworkers/routing/KeyBuckets -/
def k4 : Class := { plain "com/example/keys_across_workers/keysacrossworkers/routing/KeyBuckets" (some 0) with
  accessFlags := 33
  interfaces := #[3]
  cf := some (fileOf pool4 10 #[] #[{ accessFlags := 9, nameIndex := 13, descriptorIndex := 14, attributes := #[] }] 33 4 #[1] #[{ accessFlags := 25, nameIndex := 51, descriptorIndex := 18, attributes := #[] }, { accessFlags := 18, nameIndex := 17, descriptorIndex := 18, attributes := #[] }, { accessFlags := 18, nameIndex := 25, descriptorIndex := 26, attributes := #[] }])
  fields := #[{ name := "MAX_FACTOR", type := .int, accessFlags := 25, slot := 0, constantValue := 0 }, { name := "factor", type := .int, accessFlags := 18, slot := 0, constantValue := 0 }, { name := "keyGrouping", type := (.object "com/example/keys_across_workers/keysacrossworkers/routing/KeyGrouping"), accessFlags := 18, slot := 1, constantValue := 0 }]
  methods := #[k4m0]
  instanceTypes := #[.int, (.object "com/example/keys_across_workers/keysacrossworkers/routing/KeyGrouping")]
  staticTypes := #[.int]
  resolved := Array.replicate 77 none
  statics := none }

def pool5 : Array CpInfo := pool [(1, .class_ 2), (0, u "java/io/Serializable"), (0, .class_ 4), (0, u "java/lang/Object")] 2

/-- java/io/Serializable -/
def k5 : Class := { plain "java/io/Serializable" (some 0) with
  accessFlags := 1537
  interfaces := #[]
  cf := some (fileOf pool5 1 #[] #[] 1537 3 #[] #[])
  fields := #[]
  methods := #[]
  instanceTypes := #[]
  staticTypes := #[]
  resolved := Array.replicate 7 none
  statics := none }

def pool6 : Array CpInfo := pool [(2, .class_ 4), (1, u "java/lang/Object"), (0, u "<init>"), (0, u "()V"), (1, .class_ 10), (1, u "java/lang/Number"), (2, .class_ 14), (0, u "java/io/Serializable"), (0, u "serialVersionUID"), (0, u "J")] 20

def k6m0 : Method := { name := "<init>", desc := "()V", sig := { parameters := [], returnType := none }, accessFlags := 1, code := none }
/-- java/lang/Number -/
def k6 : Class := { plain "java/lang/Number" (some 0) with
  accessFlags := 1057
  interfaces := #[5]
  cf := some (fileOf pool6 8 #[] #[{ accessFlags := 1, nameIndex := 5, descriptorIndex := 6, attributes := #[] }] 1057 2 #[13] #[{ accessFlags := 26, nameIndex := 15, descriptorIndex := 16, attributes := #[] }])
  fields := #[{ name := "serialVersionUID", type := .long, accessFlags := 26, slot := 0, constantValue := 0 }]
  methods := #[k6m0]
  instanceTypes := #[]
  staticTypes := #[.long]
  resolved := Array.replicate 37 none
  statics := none }

def pool7 : Array CpInfo := pool [(1, .class_ 2), (0, u "java/lang/Comparable"), (0, .class_ 4), (0, u "java/lang/Object")] 7

/-- java/lang/Comparable -/
def k7 : Class := { plain "java/lang/Comparable" (some 0) with
  accessFlags := 1537
  interfaces := #[]
  cf := some (fileOf pool7 1 #[] #[] 1537 3 #[] #[])
  fields := #[]
  methods := #[]
  instanceTypes := #[]
  staticTypes := #[]
  resolved := Array.replicate 12 none
  statics := none }

def pool8 : Array CpInfo := pool [(1, .class_ 2), (0, u "java/lang/constant/Constable"), (0, .class_ 4), (0, u "java/lang/Object")] 6

/-- java/lang/constant/Constable -/
def k8 : Class := { plain "java/lang/constant/Constable" (some 0) with
  accessFlags := 1537
  interfaces := #[]
  cf := some (fileOf pool8 1 #[] #[] 1537 3 #[] #[])
  fields := #[]
  methods := #[]
  instanceTypes := #[]
  staticTypes := #[]
  resolved := Array.replicate 11 none
  statics := none }

def pool9 : Array CpInfo := pool [(1, .class_ 2), (0, u "java/lang/constant/ConstantDesc"), (0, .class_ 4), (0, u "java/lang/Object")] 32

/-- java/lang/constant/ConstantDesc -/
def k9 : Class := { plain "java/lang/constant/ConstantDesc" (some 0) with
  accessFlags := 1537
  interfaces := #[]
  cf := some (fileOf pool9 1 #[] #[] 1537 3 #[] #[])
  fields := #[]
  methods := #[]
  instanceTypes := #[]
  staticTypes := #[]
  resolved := Array.replicate 37 none
  statics := none }

def pool10 : Array CpInfo := pool [(1, .class_ 2), (0, u "java/lang/Integer"), (16, u "digits"), (0, u "[C"), (33, u "(I)I"), (30, u "DigitOnes"), (0, u "[B"), (2, u "DigitTens"), (99, .class_ 190), (0, u "java/lang/Integer$IntegerCache"), (3, u "I"), (8, .class_ 204), (0, u "java/lang/Number"), (2, u "value"), (57, .integer 1431655765), (0, .integer 858993459), (0, .integer 252645135), (34, u "TYPE"), (0, u "Ljava/lang/Class;"), (0, .class_ 305), (0, u "java/lang/Comparable"), (0, .class_ 307), (0, u "java/lang/constant/Constable"), (0, .class_ 309), (0, u "java/lang/constant/ConstantDesc"), (0, u "MIN_VALUE"), (1, u "MAX_VALUE"), (3, u "SIZE"), (1, u "BYTES"), (1, u "serialVersionUID"), (0, u "J"), (85, u "bitCount")] 45

def k10c0 : Code := { maxStack := 3, maxLocals := 1, code := jdk_33_method_49_code, exceptionTable := #[], attributes := #[] }
def k10m0 : Method := { name := "bitCount", desc := "(I)I", sig := { parameters := [.int], returnType := some .int }, accessFlags := 9, code := some k10c0 }
/-- java/lang/Integer -/
def k10 : Class := { plain "java/lang/Integer" (some 6) with
  accessFlags := 49
  interfaces := #[7, 8, 9]
  cf := some (fileOf pool10 1 #[.nestMembers #[189]] #[{ accessFlags := 9, nameIndex := 407, descriptorIndex := 54, attributes := #[] }] 49 203 #[304, 306, 308] #[{ accessFlags := 25, nameIndex := 310, descriptorIndex := 194, attributes := #[] }, { accessFlags := 25, nameIndex := 312, descriptorIndex := 194, attributes := #[] }, { accessFlags := 25, nameIndex := 302, descriptorIndex := 303, attributes := #[] }, { accessFlags := 24, nameIndex := 19, descriptorIndex := 20, attributes := #[] }, { accessFlags := 24, nameIndex := 89, descriptorIndex := 86, attributes := #[] }, { accessFlags := 24, nameIndex := 85, descriptorIndex := 86, attributes := #[] }, { accessFlags := 18, nameIndex := 207, descriptorIndex := 194, attributes := #[] }, { accessFlags := 25, nameIndex := 316, descriptorIndex := 194, attributes := #[] }, { accessFlags := 25, nameIndex := 318, descriptorIndex := 194, attributes := #[] }, { accessFlags := 26, nameIndex := 320, descriptorIndex := 321, attributes := #[] }])
  fields := #[{ name := "MIN_VALUE", type := .int, accessFlags := 25, slot := 0, constantValue := 0 }, { name := "MAX_VALUE", type := .int, accessFlags := 25, slot := 1, constantValue := 0 }, { name := "TYPE", type := (.object "java/lang/Class"), accessFlags := 25, slot := 2, constantValue := 0 }, { name := "digits", type := (.array .char), accessFlags := 24, slot := 3, constantValue := 0 }, { name := "DigitTens", type := (.array .byte), accessFlags := 24, slot := 4, constantValue := 0 }, { name := "DigitOnes", type := (.array .byte), accessFlags := 24, slot := 5, constantValue := 0 }, { name := "value", type := .int, accessFlags := 18, slot := 0, constantValue := 0 }, { name := "SIZE", type := .int, accessFlags := 25, slot := 6, constantValue := 0 }, { name := "BYTES", type := .int, accessFlags := 25, slot := 7, constantValue := 0 }, { name := "serialVersionUID", type := .long, accessFlags := 26, slot := 8, constantValue := 0 }]
  methods := #[k10m0]
  instanceTypes := #[.int]
  staticTypes := #[.int, .int, (.object "java/lang/Class"), (.array .char), (.array .byte), (.array .byte), .int, .int, .long]
  resolved := Array.replicate 453 none
  statics := none }

def pool11 : Array CpInfo := pool [(2, .class_ 4), (1, u "java/lang/CharSequence"), (42, .class_ 48), (0, u "java/lang/CharSequence$1CodePointIterator"), (10, .class_ 60), (0, u "java/lang/CharSequence$1CharIterator"), (5, .class_ 67), (0, u "java/lang/Object")] 63

/-- java/lang/CharSequence -/
def k11 : Class := { plain "java/lang/CharSequence" (some 0) with
  accessFlags := 1537
  interfaces := #[]
  cf := some (fileOf pool11 2 #[.nestMembers #[47, 59]] #[] 1537 66 #[] #[])
  fields := #[]
  methods := #[]
  instanceTypes := #[]
  staticTypes := #[]
  resolved := Array.replicate 131 none
  statics := none }

def pool12 : Array CpInfo := pool [(1, .methodref 2 3), (0, .class_ 4), (0, .nameAndType 5 6), (0, u "java/lang/Object"), (0, u "<init>"), (0, u "()V"), (2, .fieldref 10 11), (0, .class_ 12), (0, .nameAndType 13 14), (0, u "java/lang/String"), (0, u "value"), (0, u "[B"), (0, .fieldref 10 16), (0, .nameAndType 17 18), (0, u "coder"), (0, u "B"), (2, u "hash"), (0, u "I"), (2, u "hashIsZero"), (0, u "Z"), (11, .fieldref 10 39), (0, .nameAndType 40 26), (0, u "COMPACT_STRINGS"), (12, u "toBytes"), (53, .class_ 109), (1, u "java/lang/StringLatin1"), (99, .methodref 10 210), (0, .nameAndType 5 211), (0, u "([BB)V"), (157, u "(C)Z"), (205, .class_ 576), (0, u "java/lang/CharSequence"), (22, u "CASE_INSENSITIVE_ORDER"), (0, u "Ljava/util/Comparator;"), (181, u "valueOf"), (0, u "(C)Ljava/lang/String;"), (231, .methodref 107 1016), (0, .nameAndType 1017 369), (0, u "canEncode"), (0, .methodref 107 1019), (0, .nameAndType 53 1020), (0, u "(C)[B"), (80, u "serialPersistentFields"), (0, u "[Ljava/io/ObjectStreamField;"), (0, .class_ 1104), (0, u "java/lang/String$CaseInsensitiveComparator"), (1, .class_ 1107), (0, u "java/io/Serializable"), (0, .class_ 1109), (0, u "java/lang/Comparable"), (0, .class_ 1111), (0, u "java/lang/constant/Constable"), (0, .class_ 1113), (0, u "java/lang/constant/ConstantDesc"), (2, u "serialVersionUID"), (0, u "J"), (3, u "REPL"), (0, u "C"), (2, u "LATIN1"), (1, u "UTF16")] 323

def k12m0 : Method := { name := "<init>", desc := "()V", sig := { parameters := [], returnType := none }, accessFlags := 1, code := none }
def k12c1 : Code := { maxStack := 4, maxLocals := 1, code := jdk_42_method_139_code, exceptionTable := #[], attributes := #[] }
def k12m1 : Method := { name := "valueOf", desc := "(C)Ljava/lang/String;", sig := { parameters := [.char], returnType := some (.object "java/lang/String") }, accessFlags := 9, code := some k12c1 }
def k12c2 : Code := { maxStack := 2, maxLocals := 3, code := jdk_42_method_151_code, exceptionTable := #[], attributes := #[] }
def k12m2 : Method := { name := "<init>", desc := "([BB)V", sig := { parameters := [(.array .byte), .byte], returnType := none }, accessFlags := 0, code := some k12c2 }
/-- java/lang/String -/
def k12 : Class := { plain "java/lang/String" (some 0) with
  accessFlags := 49
  interfaces := #[5, 7, 11, 8, 9]
  cf := some (fileOf pool12 10 #[.nestMembers #[1103]] #[{ accessFlags := 1, nameIndex := 5, descriptorIndex := 6, attributes := #[] }, { accessFlags := 9, nameIndex := 782, descriptorIndex := 783, attributes := #[] }, { accessFlags := 0, nameIndex := 5, descriptorIndex := 211, attributes := #[] }] 49 2 #[1106, 1108, 575, 1110, 1112] #[{ accessFlags := 18, nameIndex := 13, descriptorIndex := 14, attributes := #[] }, { accessFlags := 18, nameIndex := 17, descriptorIndex := 18, attributes := #[] }, { accessFlags := 2, nameIndex := 21, descriptorIndex := 22, attributes := #[] }, { accessFlags := 2, nameIndex := 25, descriptorIndex := 26, attributes := #[] }, { accessFlags := 26, nameIndex := 1116, descriptorIndex := 1117, attributes := #[] }, { accessFlags := 24, nameIndex := 40, descriptorIndex := 26, attributes := #[] }, { accessFlags := 26, nameIndex := 1101, descriptorIndex := 1102, attributes := #[] }, { accessFlags := 26, nameIndex := 1121, descriptorIndex := 1122, attributes := #[] }, { accessFlags := 25, nameIndex := 599, descriptorIndex := 600, attributes := #[] }, { accessFlags := 24, nameIndex := 1125, descriptorIndex := 18, attributes := #[] }, { accessFlags := 24, nameIndex := 1127, descriptorIndex := 18, attributes := #[] }])
  fields := #[{ name := "value", type := (.array .byte), accessFlags := 18, slot := 0, constantValue := 0 }, { name := "coder", type := .byte, accessFlags := 18, slot := 1, constantValue := 0 }, { name := "hash", type := .int, accessFlags := 2, slot := 2, constantValue := 0 }, { name := "hashIsZero", type := .boolean, accessFlags := 2, slot := 3, constantValue := 0 }, { name := "serialVersionUID", type := .long, accessFlags := 26, slot := 0, constantValue := 0 }, { name := "COMPACT_STRINGS", type := .boolean, accessFlags := 24, slot := 1, constantValue := 0 }, { name := "serialPersistentFields", type := (.array (.object "java/io/ObjectStreamField")), accessFlags := 26, slot := 2, constantValue := 0 }, { name := "REPL", type := .char, accessFlags := 26, slot := 3, constantValue := 0 }, { name := "CASE_INSENSITIVE_ORDER", type := (.object "java/util/Comparator"), accessFlags := 25, slot := 4, constantValue := 0 }, { name := "LATIN1", type := .byte, accessFlags := 24, slot := 5, constantValue := 0 }, { name := "UTF16", type := .byte, accessFlags := 24, slot := 6, constantValue := 0 }]
  methods := #[k12m0, k12m1, k12m2]
  instanceTypes := #[(.array .byte), .byte, .int, .boolean]
  staticTypes := #[.long, .boolean, (.array (.object "java/io/ObjectStreamField")), .char, (.object "java/util/Comparator"), .byte, .byte]
  resolved := Array.replicate 1451 none
  statics := some 0 }

def pool13 : Array CpInfo := pool [(4, .class_ 6), (1, u "java/lang/Object"), (0, u "<init>"), (0, u "()V"), (5, .class_ 16), (1, u "java/lang/StringLatin1"), (73, u "canEncode"), (14, u "(C)Z"), (15, u "$assertionsDisabled"), (0, u "Z"), (98, .class_ 223), (1, u "java/lang/StringLatin1$LinesSpliterator"), (156, u "toBytes"), (1, u "(C)[B"), (7, .class_ 391), (0, u "java/lang/StringLatin1$CharsSpliterator")] 3

def k13m0 : Method := { name := "<init>", desc := "()V", sig := { parameters := [], returnType := none }, accessFlags := 0, code := none }
def k13c1 : Code := { maxStack := 2, maxLocals := 1, code := jdk_43_method_3_code, exceptionTable := #[], attributes := #[] }
def k13m1 : Method := { name := "canEncode", desc := "(C)Z", sig := { parameters := [.char], returnType := some .boolean }, accessFlags := 9, code := some k13c1 }
def k13c2 : Code := { maxStack := 4, maxLocals := 1, code := jdk_43_method_46_code, exceptionTable := #[], attributes := #[] }
def k13m2 : Method := { name := "toBytes", desc := "(C)[B", sig := { parameters := [.char], returnType := some (.array .byte) }, accessFlags := 9, code := some k13c2 }
/-- java/lang/StringLatin1 -/
def k13 : Class := { plain "java/lang/StringLatin1" (some 0) with
  accessFlags := 48
  interfaces := #[]
  cf := some (fileOf pool13 14 #[.nestMembers #[390, 221]] #[{ accessFlags := 0, nameIndex := 7, descriptorIndex := 8, attributes := #[] }, { accessFlags := 9, nameIndex := 90, descriptorIndex := 105, attributes := #[] }, { accessFlags := 9, nameIndex := 380, descriptorIndex := 382, attributes := #[] }] 48 4 #[] #[{ accessFlags := 4120, nameIndex := 121, descriptorIndex := 122, attributes := #[] }])
  fields := #[{ name := "$assertionsDisabled", type := .boolean, accessFlags := 4120, slot := 0, constantValue := 0 }]
  methods := #[k13m0, k13m1, k13m2]
  instanceTypes := #[]
  staticTypes := #[.boolean]
  resolved := Array.replicate 395 none
  statics := none }

def pool14 : Array CpInfo := pool [(2, .class_ 4), (1, u "java/lang/Object"), (0, u "<init>"), (0, u "()V"), (17, .class_ 26), (1, u "jdk/internal/util/Preconditions"), (28, .class_ 56), (0, u "jdk/internal/util/Preconditions$4"), (57, .class_ 115), (0, u "jdk/internal/util/Preconditions$1"), (7, u "SIOOBE_FORMATTER"), (0, u "Ljava/util/function/BiFunction;"), (0, .class_ 126), (0, u "jdk/internal/util/Preconditions$2"), (3, u "AIOOBE_FORMATTER"), (0, .class_ 132), (0, u "jdk/internal/util/Preconditions$3"), (3, u "IOOBE_FORMATTER")] 57

def k14m0 : Method := { name := "<init>", desc := "()V", sig := { parameters := [], returnType := none }, accessFlags := 1, code := none }
/-- jdk/internal/util/Preconditions -/
def k14 : Class := { plain "jdk/internal/util/Preconditions" (some 0) with
  accessFlags := 33
  interfaces := #[]
  cf := some (fileOf pool14 24 #[.nestMembers #[55, 131, 125, 114]] #[{ accessFlags := 1, nameIndex := 5, descriptorIndex := 6, attributes := #[] }] 33 2 #[] #[{ accessFlags := 25, nameIndex := 123, descriptorIndex := 124, attributes := #[] }, { accessFlags := 25, nameIndex := 130, descriptorIndex := 124, attributes := #[] }, { accessFlags := 25, nameIndex := 136, descriptorIndex := 124, attributes := #[] }])
  fields := #[{ name := "SIOOBE_FORMATTER", type := (.object "java/util/function/BiFunction"), accessFlags := 25, slot := 0, constantValue := 0 }, { name := "AIOOBE_FORMATTER", type := (.object "java/util/function/BiFunction"), accessFlags := 25, slot := 1, constantValue := 0 }, { name := "IOOBE_FORMATTER", type := (.object "java/util/function/BiFunction"), accessFlags := 25, slot := 2, constantValue := 0 }]
  methods := #[k14m0]
  instanceTypes := #[]
  staticTypes := #[(.object "java/util/function/BiFunction"), (.object "java/util/function/BiFunction"), (.object "java/util/function/BiFunction")]
  resolved := Array.replicate 194 none
  statics := some 1 }

def pool15 : Array CpInfo := pool [(9, u "<init>"), (6, .class_ 18), (1, u "java/lang/Object"), (0, u "()V"), (1, .class_ 23), (1, u "jdk/internal/util/ArraysSupport"), (0, u "LOG2_ARRAY_LONG_INDEX_SCALE"), (0, u "I"), (2, u "U"), (0, u "Ljdk/internal/misc/Unsafe;"), (8, u "BIG_ENDIAN"), (0, u "Z"), (8, u "LOG2_BYTE_BIT_SIZE"), (4, u "LOG2_ARRAY_INT_INDEX_SCALE"), (54, u "JLA"), (0, u "Ljdk/internal/access/JavaLangAccess;"), (11, u "LOG2_ARRAY_BOOLEAN_INDEX_SCALE"), (9, u "LOG2_ARRAY_BYTE_INDEX_SCALE"), (5, u "LOG2_ARRAY_CHAR_INDEX_SCALE"), (5, u "LOG2_ARRAY_SHORT_INDEX_SCALE"), (18, u "LOG2_ARRAY_FLOAT_INDEX_SCALE"), (24, u "LOG2_ARRAY_DOUBLE_INDEX_SCALE"), (89, u "T_BOOLEAN"), (2, u "T_CHAR"), (1, u "T_FLOAT"), (1, u "T_DOUBLE"), (1, u "T_BYTE"), (1, u "T_SHORT"), (1, u "T_INT"), (1, u "T_LONG"), (1, u "SOFT_MAX_ARRAY_LENGTH")] 83

def k15m0 : Method := { name := "<init>", desc := "()V", sig := { parameters := [], returnType := none }, accessFlags := 2, code := none }
/-- jdk/internal/util/ArraysSupport -/
def k15 : Class := { plain "jdk/internal/util/ArraysSupport" (some 0) with
  accessFlags := 33
  interfaces := #[]
  cf := some (fileOf pool15 21 #[] #[{ accessFlags := 2, nameIndex := 9, descriptorIndex := 19, attributes := #[] }] 33 16 #[] #[{ accessFlags := 24, nameIndex := 28, descriptorIndex := 29, attributes := #[] }, { accessFlags := 26, nameIndex := 38, descriptorIndex := 39, attributes := #[] }, { accessFlags := 25, nameIndex := 121, descriptorIndex := 25, attributes := #[] }, { accessFlags := 25, nameIndex := 131, descriptorIndex := 25, attributes := #[] }, { accessFlags := 25, nameIndex := 137, descriptorIndex := 25, attributes := #[] }, { accessFlags := 25, nameIndex := 143, descriptorIndex := 25, attributes := #[] }, { accessFlags := 25, nameIndex := 53, descriptorIndex := 25, attributes := #[] }, { accessFlags := 25, nameIndex := 24, descriptorIndex := 25, attributes := #[] }, { accessFlags := 25, nameIndex := 162, descriptorIndex := 25, attributes := #[] }, { accessFlags := 25, nameIndex := 187, descriptorIndex := 25, attributes := #[] }, { accessFlags := 26, nameIndex := 48, descriptorIndex := 25, attributes := #[] }, { accessFlags := 25, nameIndex := 277, descriptorIndex := 25, attributes := #[] }, { accessFlags := 25, nameIndex := 280, descriptorIndex := 25, attributes := #[] }, { accessFlags := 25, nameIndex := 282, descriptorIndex := 25, attributes := #[] }, { accessFlags := 25, nameIndex := 284, descriptorIndex := 25, attributes := #[] }, { accessFlags := 25, nameIndex := 286, descriptorIndex := 25, attributes := #[] }, { accessFlags := 25, nameIndex := 288, descriptorIndex := 25, attributes := #[] }, { accessFlags := 25, nameIndex := 290, descriptorIndex := 25, attributes := #[] }, { accessFlags := 25, nameIndex := 292, descriptorIndex := 25, attributes := #[] }, { accessFlags := 26, nameIndex := 108, descriptorIndex := 109, attributes := #[] }, { accessFlags := 25, nameIndex := 294, descriptorIndex := 25, attributes := #[] }])
  fields := #[{ name := "U", type := (.object "jdk/internal/misc/Unsafe"), accessFlags := 24, slot := 0, constantValue := 0 }, { name := "BIG_ENDIAN", type := .boolean, accessFlags := 26, slot := 1, constantValue := 0 }, { name := "LOG2_ARRAY_BOOLEAN_INDEX_SCALE", type := .int, accessFlags := 25, slot := 2, constantValue := 0 }, { name := "LOG2_ARRAY_BYTE_INDEX_SCALE", type := .int, accessFlags := 25, slot := 3, constantValue := 0 }, { name := "LOG2_ARRAY_CHAR_INDEX_SCALE", type := .int, accessFlags := 25, slot := 4, constantValue := 0 }, { name := "LOG2_ARRAY_SHORT_INDEX_SCALE", type := .int, accessFlags := 25, slot := 5, constantValue := 0 }, { name := "LOG2_ARRAY_INT_INDEX_SCALE", type := .int, accessFlags := 25, slot := 6, constantValue := 0 }, { name := "LOG2_ARRAY_LONG_INDEX_SCALE", type := .int, accessFlags := 25, slot := 7, constantValue := 0 }, { name := "LOG2_ARRAY_FLOAT_INDEX_SCALE", type := .int, accessFlags := 25, slot := 8, constantValue := 0 }, { name := "LOG2_ARRAY_DOUBLE_INDEX_SCALE", type := .int, accessFlags := 25, slot := 9, constantValue := 0 }, { name := "LOG2_BYTE_BIT_SIZE", type := .int, accessFlags := 26, slot := 10, constantValue := 0 }, { name := "T_BOOLEAN", type := .int, accessFlags := 25, slot := 11, constantValue := 0 }, { name := "T_CHAR", type := .int, accessFlags := 25, slot := 12, constantValue := 0 }, { name := "T_FLOAT", type := .int, accessFlags := 25, slot := 13, constantValue := 0 }, { name := "T_DOUBLE", type := .int, accessFlags := 25, slot := 14, constantValue := 0 }, { name := "T_BYTE", type := .int, accessFlags := 25, slot := 15, constantValue := 0 }, { name := "T_SHORT", type := .int, accessFlags := 25, slot := 16, constantValue := 0 }, { name := "T_INT", type := .int, accessFlags := 25, slot := 17, constantValue := 0 }, { name := "T_LONG", type := .int, accessFlags := 25, slot := 18, constantValue := 0 }, { name := "JLA", type := (.object "jdk/internal/access/JavaLangAccess"), accessFlags := 26, slot := 19, constantValue := 0 }, { name := "SOFT_MAX_ARRAY_LENGTH", type := .int, accessFlags := 25, slot := 20, constantValue := 0 }]
  methods := #[k15m0]
  instanceTypes := #[]
  staticTypes := #[(.object "jdk/internal/misc/Unsafe"), .boolean, .int, .int, .int, .int, .int, .int, .int, .int, .int, .int, .int, .int, .int, .int, .int, .int, .int, (.object "jdk/internal/access/JavaLangAccess"), .int]
  resolved := Array.replicate 378 none
  statics := none }

def pool16 : Array CpInfo := pool [(1, u "java/lang/Cloneable"), (0, .class_ 1), (0, u "java/lang/Object"), (0, .class_ 3)] 3

/-- java/lang/Cloneable -/
def k16 : Class := { plain "java/lang/Cloneable" (some 0) with
  accessFlags := 1537
  interfaces := #[]
  cf := some (fileOf pool16 2 #[] #[] 1537 4 #[] #[])
  fields := #[]
  methods := #[]
  instanceTypes := #[]
  staticTypes := #[]
  resolved := Array.replicate 8 none
  statics := none }

/-- the primitive byte -/
def k17 : Class := { plain "byte" none with kind := .primitive 'B', accessFlags := 0x411 }
/-- [B -/
def k18 : Class := { plain "[B" (some 0) with kind := .array 17 .byte, interfaces := #[16, 5], accessFlags := 1041 }

/-- the primitive int -/
def k19 : Class := { plain "int" none with kind := .primitive 'I', accessFlags := 0x411 }
/-- [I -/
def k20 : Class := { plain "[I" (some 0) with kind := .array 19 .int, interfaces := #[16, 5], accessFlags := 1041 }

def heap : Heap := #[{ cls := 12, slots := #[.long 0, .int 1, .null, .int 0, .null, .int 0, .int 0], vm := .statics 12 },
  { cls := 14, slots := #[.null, .null, .null], vm := .statics 14 }]
def classes : Array Class := #[k0, k1, k2, k3, k4, k5, k6, k7, k8, k9, k10, k11, k12, k13, k14, k15, k16, k17, k18, k19, k20]
def interned : List (Array UInt16 × Addr) := []
def slotsUsed : Nat := 10
def theMethod : MethodId := ⟨1, 1⟩
def args0 : Array Value := #[.int 5, .int 5, .int 5, .int 5, .int 5, .int 5]
def aboutOver (below : List Frame) : State where
  vm := { classes := classes, interned := interned.toArray }
  heap := heap
  slotsUsed := slotsUsed
  threads := #[{ frames := .invoking theMethod args0 :: below }]
def below0 : List Frame := [.native { method := ⟨0, 0⟩, args := #[] }]
def about1 : State := aboutOver below0
def p0 : Program := .bare "" "" ""
def e0 : Env := launch0.env 0 0 0
theorem w_frames : about1.frames = Frame.invoking theMethod args0 :: below0 := rfl
set_option maxRecDepth 65536 in
theorem w_args : argsFit about1.vm theMethod args0 = true := by decide +kernel
set_option maxRecDepth 65536 in
theorem w_heap : heapFits about1 = true := by decide +kernel
set_option maxRecDepth 65536 in
theorem w_runnable : about1.curStatus? = some .runnable := by decide +kernel
set_option maxRecDepth 65536 in
theorem w_alone : about1.alone = true := by decide +kernel
set_option maxRecDepth 65536 in
theorem w_named : about1.methodNamed? x = some theMethod := by decide +kernel
set_option maxRecDepth 65536 in
theorem w_hears : about1.hears theMethod below0 = true := by decide +kernel
set_option maxRecDepth 65536 in
theorem w_ripe : about1.ripe theMethod args0 below0 = true := by decide +kernel
theorem w_running : about1.status = .running := rfl
set_option maxRecDepth 65536 in
theorem w_room : about1.hasRoom e0.platform room_1 = true :=
  launch0.hasRoom_least _ room_1 (by decide +kernel) (by decide +kernel) (by decide +kernel) (by decide +kernel) (by decide +kernel) (by decide +kernel)
theorem allAtoms_all (ts : List Jvm.Cond) (a : Array Jvm.Value) (st : Jvm.State) : (allAtoms ts).before a st = ts.all (fun c => c.before a st) := by
  induction ts with
  | nil => rfl
  | cons c t ih =>
    show (Jvm.Cond.and c (allAtoms t)).before a st = _
    rw [Jvm.Cond.before_and, ih, List.all_cons]
def words1 : List Jvm.Cond := Jvm.Cond.code x code maxLocals ret :: tables_1
/-- a 'code' word, met by the world's own term for the bytes: nothing is compared byte by byte -/
theorem code_word {y : MethodName} {bytes : ByteArray} {mx : Nat} {rt : Option FieldType} {a : Array Value} {s : State} {m : MethodId} {meth : Method} {c : Code} (h1 : s.methodNamed? y = some m) (h2 : s.vm.method? m = some meth) (h3 : meth.code = some c) (h4 : c.code = bytes)
    (h5 : (c.maxLocals == mx && c.exceptionTable.isEmpty && decide (c.maxStack ≤ mostOperands) && decide (meth.sig.returnType = rt) && !meth.locks && decide (parseMethodDescriptor y.desc = some meth.sig)) = true) : (Jvm.Cond.code y bytes mx rt).before a s = true := by
  simp only [Bool.and_eq_true, beq_iff_eq, Bool.not_eq_true', decide_eq_true_eq] at h5
  obtain ⟨⟨⟨⟨⟨g1, g2⟩, g3⟩, g4⟩, g5⟩, g6⟩ := h5
  simp [Cond.before, Cond.holds, Cond.value, h1, h2, h3, h4, g1, g2, g3, g4, g5, g6]
def isCode : Jvm.Cond → Bool
  | .code _ _ _ _ => true
  | _ => false
theorem all_split {L : List Jvm.Cond} {P : Jvm.Cond → Bool} (h1 : L.all (fun c => isCode c || P c) = true) (h2 : ∀ c ∈ L.filter isCode, P c = true) : L.all P = true := by
  refine List.all_eq_true.mpr fun c hc => ?_
  have h := List.all_eq_true.mp h1 c hc
  rcases Bool.eq_false_or_eq_true (isCode c) with hi | hi
  · exact h2 c (List.mem_filter.mpr ⟨hc, hi⟩)
  · simpa [hi] using h
set_option maxRecDepth 65536 in
theorem w_c0 : (Jvm.Cond.code x code maxLocals ret).before args0 about1 = true := code_word (m := ⟨1, 1⟩) (meth := k1m1) (c := k1c1) (by decide +kernel) rfl rfl rfl (by decide +kernel)
set_option maxRecDepth 65536 in
theorem w_c1 : (Jvm.Cond.code ({ cls := "com/example/keys_across_workers/keysacrossworkers/elasticity/VirtualTask", name := "<init>", desc := "(III)V" } : Jvm.MethodName) prog_10_method_1_code (4 : Nat) (Option.none : Option Jvm.ClassFile.FieldType)).before args0 about1 = true := code_word (m := ⟨2, 0⟩) (meth := k2m0) (c := k2c0) (by decide +kernel) rfl rfl rfl (by decide +kernel)
set_option maxRecDepth 65536 in
theorem w_c2 : (Jvm.Cond.code ({ cls := "java/lang/Object", name := "<init>", desc := "()V" } : Jvm.MethodName) object_method_1_code (1 : Nat) (Option.none : Option Jvm.ClassFile.FieldType)).before args0 about1 = true := code_word (m := ⟨0, 0⟩) (meth := k0m0) (c := k0c0) (by decide +kernel) rfl rfl rfl (by decide +kernel)
set_option maxRecDepth 65536 in
theorem w_c3 : (Jvm.Cond.code ({ cls := "com/example/keys_across_workers/keysacrossworkers/routing/KeyBuckets", name := "checkFactor", desc := "(I)V" } : Jvm.MethodName) prog_20_method_2_code (1 : Nat) (Option.none : Option Jvm.ClassFile.FieldType)).before args0 about1 = true := code_word (m := ⟨4, 0⟩) (meth := k4m0) (c := k4c0) (by decide +kernel) rfl rfl rfl (by decide +kernel)
set_option maxRecDepth 65536 in
theorem w_c4 : (Jvm.Cond.code ({ cls := "java/lang/Integer", name := "bitCount", desc := "(I)I" } : Jvm.MethodName) jdk_33_method_49_code (1 : Nat) (Option.some Jvm.ClassFile.FieldType.int)).before args0 about1 = true := code_word (m := ⟨10, 0⟩) (meth := k10m0) (c := k10c0) (by decide +kernel) rfl rfl rfl (by decide +kernel)
set_option maxRecDepth 65536 in
theorem w_c5 : (Jvm.Cond.code ({ cls := "com/example/keys_across_workers/keysacrossworkers/elasticity/VirtualTask", name := "equals", desc := "(Ljava/lang/Object;)Z" } : Jvm.MethodName) prog_10_method_7_code (3 : Nat) (Option.some Jvm.ClassFile.FieldType.boolean)).before args0 about1 = true := code_word (m := ⟨2, 1⟩) (meth := k2m1) (c := k2c1) (by decide +kernel) rfl rfl rfl (by decide +kernel)
set_option maxRecDepth 65536 in
theorem w_c6 : (Jvm.Cond.code ({ cls := "java/lang/String", name := "valueOf", desc := "(C)Ljava/lang/String;" } : Jvm.MethodName) jdk_42_method_139_code (1 : Nat) (Option.some (Jvm.ClassFile.FieldType.object "java/lang/String"))).before args0 about1 = true := code_word (m := ⟨12, 1⟩) (meth := k12m1) (c := k12c1) (by decide +kernel) rfl rfl rfl (by decide +kernel)
set_option maxRecDepth 65536 in
theorem w_c7 : (Jvm.Cond.code ({ cls := "java/lang/StringLatin1", name := "canEncode", desc := "(C)Z" } : Jvm.MethodName) jdk_43_method_3_code (1 : Nat) (Option.some Jvm.ClassFile.FieldType.boolean)).before args0 about1 = true := code_word (m := ⟨13, 1⟩) (meth := k13m1) (c := k13c1) (by decide +kernel) rfl rfl rfl (by decide +kernel)
set_option maxRecDepth 65536 in
theorem w_c8 : (Jvm.Cond.code ({ cls := "java/lang/StringLatin1", name := "toBytes", desc := "(C)[B" } : Jvm.MethodName) jdk_43_method_46_code (1 : Nat) (Option.some (Jvm.ClassFile.FieldType.array Jvm.ClassFile.FieldType.byte))).before args0 about1 = true := code_word (m := ⟨13, 2⟩) (meth := k13m2) (c := k13c2) (by decide +kernel) rfl rfl rfl (by decide +kernel)
set_option maxRecDepth 65536 in
theorem w_c9 : (Jvm.Cond.code ({ cls := "java/lang/String", name := "<init>", desc := "([BB)V" } : Jvm.MethodName) jdk_42_method_151_code (3 : Nat) (Option.none : Option Jvm.ClassFile.FieldType)).before args0 about1 = true := code_word (m := ⟨12, 2⟩) (meth := k12m2) (c := k12c2) (by decide +kernel) rfl rfl rfl (by decide +kernel)
def codes1 : List Jvm.Cond := [Jvm.Cond.code x code maxLocals ret, Jvm.Cond.code ({ cls := "com/example/keys_across_workers/keysacrossworkers/elasticity/VirtualTask", name := "<init>", desc := "(III)V" } : Jvm.MethodName) prog_10_method_1_code (4 : Nat) (Option.none : Option Jvm.ClassFile.FieldType), Jvm.Cond.code ({ cls := "java/lang/Object", name := "<init>", desc := "()V" } : Jvm.MethodName) object_method_1_code (1 : Nat) (Option.none : Option Jvm.ClassFile.FieldType), Jvm.Cond.code ({ cls := "com/example/keys_across_workers/keysacrossworkers/routing/KeyBuckets", name := "checkFactor", desc := "(I)V" } : Jvm.MethodName) prog_20_method_2_code (1 : Nat) (Option.none : Option Jvm.ClassFile.FieldType), Jvm.Cond.code ({ cls := "java/lang/Integer", name := "bitCount", desc := "(I)I" } : Jvm.MethodName) jdk_33_method_49_code (1 : Nat) (Option.some Jvm.ClassFile.FieldType.int), Jvm.Cond.code ({ cls := "com/example/keys_across_workers/keysacrossworkers/elasticity/VirtualTask", name := "equals", desc := "(Ljava/lang/Object;)Z" } : Jvm.MethodName) prog_10_method_7_code (3 : Nat) (Option.some Jvm.ClassFile.FieldType.boolean), Jvm.Cond.code ({ cls := "java/lang/String", name := "valueOf", desc := "(C)Ljava/lang/String;" } : Jvm.MethodName) jdk_42_method_139_code (1 : Nat) (Option.some (Jvm.ClassFile.FieldType.object "java/lang/String")), Jvm.Cond.code ({ cls := "java/lang/StringLatin1", name := "canEncode", desc := "(C)Z" } : Jvm.MethodName) jdk_43_method_3_code (1 : Nat) (Option.some Jvm.ClassFile.FieldType.boolean), Jvm.Cond.code ({ cls := "java/lang/StringLatin1", name := "toBytes", desc := "(C)[B" } : Jvm.MethodName) jdk_43_method_46_code (1 : Nat) (Option.some (Jvm.ClassFile.FieldType.array Jvm.ClassFile.FieldType.byte)), Jvm.Cond.code ({ cls := "java/lang/String", name := "<init>", desc := "([BB)V" } : Jvm.MethodName) jdk_42_method_151_code (3 : Nat) (Option.none : Option Jvm.ClassFile.FieldType)]
set_option maxRecDepth 65536 in
theorem codes_eq : words1.filter isCode = codes1 := rfl
theorem w_codes : ∀ c ∈ words1.filter isCode, c.before args0 about1 = true := by
  rw [codes_eq]
  intro c hc
  simp only [codes1, List.mem_cons, List.not_mem_nil, or_false] at hc
  rcases hc with rfl | rfl | rfl | rfl | rfl | rfl | rfl | rfl | rfl | rfl
  · exact w_c0
  · exact w_c1
  · exact w_c2
  · exact w_c3
  · exact w_c4
  · exact w_c5
  · exact w_c6
  · exact w_c7
  · exact w_c8
  · exact w_c9
set_option maxRecDepth 65536 in
theorem w_t1 : (words1.take 24).all (fun c => isCode c || c.before args0 about1) = true := by decide +kernel
set_option maxRecDepth 65536 in
theorem w_t2 : ((words1.drop 24).take 24).all (fun c => isCode c || c.before args0 about1) = true := by decide +kernel
set_option maxRecDepth 65536 in
theorem w_t3 : ((words1.drop 24).drop 24).all (fun c => isCode c || c.before args0 about1) = true := by decide +kernel
theorem w_tables : (allAtoms (Jvm.Cond.code x code maxLocals ret :: tables_1)).before args0 about1 = true := by
  rw [allAtoms_all]
  show words1.all (fun c => c.before args0 about1) = true
  refine all_split ?_ w_codes
  rw [← List.take_append_drop 24 words1, List.all_append, w_t1, ← List.take_append_drop 24 (words1.drop 24), List.all_append, w_t2, w_t3]
  rfl
set_option maxRecDepth 65536 in
theorem w_rest : rest_1_c.before args0 about1 = true := by decide +kernel
set_option maxRecDepth 65536 in
theorem w_case : (Jvm.Cond.and given_1 narrow_1).before args0 about1 = true := by decide +kernel
theorem w_applies : (headSpec (Jvm.Cond.code x code maxLocals ret :: tables_1) room_1).applies x e0.platform about1 = true :=
  (Spec.applies_iff w_frames).mpr ⟨w_running, w_runnable, w_alone, w_named, w_hears, w_ripe, w_room, w_tables⟩
theorem atStart : AtStart classFile x code maxLocals ret World_1 tables_1 room_1 Calls_1 rest_1 Pre_1 launch0 p0 e0 about1 theMethod args0 below0 :=
  ⟨lists_1, trivial, launch0.admits_env _ _ _, launch0.least_env, fairChoices_fair.cas, fairChoices_fair.clock, w_frames, w_args, w_heap, w_applies, trivial, w_rest, w_case⟩
end start1
theorem witness_1 : WitnessClaimed_1 := ⟨start1.p0, start1.e0, start1.about1, start1.theMethod, start1.args0, start1.below0, start1.atStart⟩
end Jvm.Pilot.@@N@@
