import JvmDerived
import JvmDerived.Pilot.@@N@@Statement
import JvmDerived.Pilot.@@N@@Code
set_option linter.unusedVariables false
set_option linter.unusedSimpArgs false
namespace Jvm.Pilot.@@N@@
open Jvm Jvm.ClassFile Sem Op Lib Jvm.Free Jvm.Stand Jvm.LawKit Jvm.RoadKit Bundle Jvm.Pilot.@@N@@.Jvm.D
section OwnKit
variable {p : Program} {l : Launch} {e : Env} {R : Room} {s : State} {m : MethodId} {args : Array Value} {below : List Frame} {meth : Method} {c : Code} {T : State} {locs : List Loc} {cells slots kc ks : Nat} {Q : Option Value → Heap → List Loc → Prop} {pc q : Nat} {Ls L' : Array Slot} {st : List Value}
def own_Go (p : Program) (e : Env) (below : List Frame) (s : State) (kc ks : Nat) (Q : Option Value → Heap → List Loc → Prop) (U : State) : Prop :=
  ∃ s₂ o, Steps p.tables e below U s₂ ∧ s₂.status = .running ∧ Ended s₂ below o ∧ ∃ v L, o = .returned v ∧ Q v s₂.heap L ∧ FrameEnd s o s₂ L kc ks
theorem own_via {U V : State} (h : ∀ t, Steps p.tables e below V t → Steps p.tables e below U t) (K : own_Go p e below s kc ks Q V) : own_Go p e below s kc ks Q U := by
  obtain ⟨a, b, h1, r⟩ := K; exact ⟨a, b, h _ h1, r⟩
def own_P (w : Value) (h : Heap) (v : Option Value) (h' : Heap) (L : List Loc) : Prop := v = some w ∧ h' = h ∧ L = []
theorem own_iadd (X : Stand p l e R s m args below meth c T locs cells slots) (hx : p.tables.exec = Jvm.exec) {x y : Int32} (hd : decode c.code pc = .ok (.iadd, 1)) (hq : pc + 1 = q)  (K : own_Go p e below s kc ks Q (T.setTop (mkF m q Ls (.int (x + y) :: st)))) : own_Go p e below s kc ks Q (T.setTop (mkF m pc Ls (.int y :: .int x :: st))) := by
  subst hq; exact own_via (fun t => XS.iadd X.here hx rfl hd rfl) K
theorem own_isub (X : Stand p l e R s m args below meth c T locs cells slots) (hx : p.tables.exec = Jvm.exec) {x y : Int32} (hd : decode c.code pc = .ok (.isub, 1)) (hq : pc + 1 = q)  (K : own_Go p e below s kc ks Q (T.setTop (mkF m q Ls (.int (x - y) :: st)))) : own_Go p e below s kc ks Q (T.setTop (mkF m pc Ls (.int y :: .int x :: st))) := by
  subst hq; exact own_via (fun t => XS.isub X.here hx rfl hd rfl) K
theorem own_imul (X : Stand p l e R s m args below meth c T locs cells slots) (hx : p.tables.exec = Jvm.exec) {x y : Int32} (hd : decode c.code pc = .ok (.imul, 1)) (hq : pc + 1 = q)  (K : own_Go p e below s kc ks Q (T.setTop (mkF m q Ls (.int (x * y) :: st)))) : own_Go p e below s kc ks Q (T.setTop (mkF m pc Ls (.int y :: .int x :: st))) := by
  subst hq; exact own_via (fun t => XS.imul X.here hx rfl hd rfl) K
theorem own_iand (X : Stand p l e R s m args below meth c T locs cells slots) (hx : p.tables.exec = Jvm.exec) {x y : Int32} (hd : decode c.code pc = .ok (.iand, 1)) (hq : pc + 1 = q)  (K : own_Go p e below s kc ks Q (T.setTop (mkF m q Ls (.int (x &&& y) :: st)))) : own_Go p e below s kc ks Q (T.setTop (mkF m pc Ls (.int y :: .int x :: st))) := by
  subst hq; exact own_via (fun t => XS.iand X.here hx rfl hd rfl) K
theorem own_ixor (X : Stand p l e R s m args below meth c T locs cells slots) (hx : p.tables.exec = Jvm.exec) {x y : Int32} (hd : decode c.code pc = .ok (.ixor, 1)) (hq : pc + 1 = q)  (K : own_Go p e below s kc ks Q (T.setTop (mkF m q Ls (.int (x ^^^ y) :: st)))) : own_Go p e below s kc ks Q (T.setTop (mkF m pc Ls (.int y :: .int x :: st))) := by
  subst hq; exact own_via (fun t => XT.ixor X.here hx rfl hd rfl) K
theorem own_ior (X : Stand p l e R s m args below meth c T locs cells slots) (hx : p.tables.exec = Jvm.exec) {x y : Int32} (hd : decode c.code pc = .ok (.ior, 1)) (hq : pc + 1 = q)  (K : own_Go p e below s kc ks Q (T.setTop (mkF m q Ls (.int (x ||| y) :: st)))) : own_Go p e below s kc ks Q (T.setTop (mkF m pc Ls (.int y :: .int x :: st))) := by
  subst hq; exact own_via (fun t => XT.ior X.here hx rfl hd rfl) K
theorem own_ishl (X : Stand p l e R s m args below meth c T locs cells slots) (hx : p.tables.exec = Jvm.exec) {x y : Int32} (hd : decode c.code pc = .ok (.ishl, 1)) (hq : pc + 1 = q)  (K : own_Go p e below s kc ks Q (T.setTop (mkF m q Ls (.int (x <<< (y &&& 31)) :: st)))) : own_Go p e below s kc ks Q (T.setTop (mkF m pc Ls (.int y :: .int x :: st))) := by
  subst hq; exact own_via (fun t => XT.ishl X.here hx rfl hd rfl) K
theorem own_ishr (X : Stand p l e R s m args below meth c T locs cells slots) (hx : p.tables.exec = Jvm.exec) {x y : Int32} (hd : decode c.code pc = .ok (.ishr, 1)) (hq : pc + 1 = q)  (K : own_Go p e below s kc ks Q (T.setTop (mkF m q Ls (.int (x >>> (y &&& 31)) :: st)))) : own_Go p e below s kc ks Q (T.setTop (mkF m pc Ls (.int y :: .int x :: st))) := by
  subst hq; exact own_via (fun t => XT.ishr X.here hx rfl hd rfl) K
theorem own_iushr (X : Stand p l e R s m args below meth c T locs cells slots) (hx : p.tables.exec = Jvm.exec) {x y : Int32} (hd : decode c.code pc = .ok (.iushr, 1)) (hq : pc + 1 = q)  (K : own_Go p e below s kc ks Q (T.setTop (mkF m q Ls (.int (XT.ushr x y) :: st)))) : own_Go p e below s kc ks Q (T.setTop (mkF m pc Ls (.int y :: .int x :: st))) := by
  subst hq; exact own_via (fun t => XT.iushr X.here hx rfl hd rfl) K
theorem own_idiv (X : Stand p l e R s m args below meth c T locs cells slots) (hx : p.tables.exec = Jvm.exec) {x y : Int32} (hd : decode c.code pc = .ok (.idiv, 1)) (hq : pc + 1 = q) (hy : y ≠ 0) (K : own_Go p e below s kc ks Q (T.setTop (mkF m q Ls (.int (x / y) :: st)))) : own_Go p e below s kc ks Q (T.setTop (mkF m pc Ls (.int y :: .int x :: st))) := by
  subst hq; exact own_via (fun t => XS.idiv X.here hx rfl hd rfl hy) K
theorem own_irem (X : Stand p l e R s m args below meth c T locs cells slots) (hx : p.tables.exec = Jvm.exec) {x y : Int32} (hd : decode c.code pc = .ok (.irem, 1)) (hq : pc + 1 = q) (hy : y ≠ 0) (K : own_Go p e below s kc ks Q (T.setTop (mkF m q Ls (.int (x % y) :: st)))) : own_Go p e below s kc ks Q (T.setTop (mkF m pc Ls (.int y :: .int x :: st))) := by
  subst hq; exact own_via (fun t => iremM X hx rfl hd rfl hy) K
theorem own_ineg (X : Stand p l e R s m args below meth c T locs cells slots) (hx : p.tables.exec = Jvm.exec) {x : Int32} (hd : decode c.code pc = .ok (.ineg, 1)) (hq : pc + 1 = q)  (K : own_Go p e below s kc ks Q (T.setTop (mkF m q Ls (.int (-x) :: st)))) : own_Go p e below s kc ks Q (T.setTop (mkF m pc Ls (.int x :: st))) := by
  subst hq; exact own_via (fun t => XS.ineg X.here hx rfl hd rfl) K
theorem own_ladd (X : Stand p l e R s m args below meth c T locs cells slots) (hx : p.tables.exec = Jvm.exec) {x y : Int64} (hd : decode c.code pc = .ok (.ladd, 1)) (hq : pc + 1 = q)  (K : own_Go p e below s kc ks Q (T.setTop (mkF m q Ls (.long (x + y) :: st)))) : own_Go p e below s kc ks Q (T.setTop (mkF m pc Ls (.long y :: .long x :: st))) := by
  subst hq; exact own_via (fun t => XT.ladd X.here hx rfl hd rfl) K
theorem own_lsub (X : Stand p l e R s m args below meth c T locs cells slots) (hx : p.tables.exec = Jvm.exec) {x y : Int64} (hd : decode c.code pc = .ok (.lsub, 1)) (hq : pc + 1 = q)  (K : own_Go p e below s kc ks Q (T.setTop (mkF m q Ls (.long (x - y) :: st)))) : own_Go p e below s kc ks Q (T.setTop (mkF m pc Ls (.long y :: .long x :: st))) := by
  subst hq; exact own_via (fun t => XT.lsub X.here hx rfl hd rfl) K
theorem own_lmul (X : Stand p l e R s m args below meth c T locs cells slots) (hx : p.tables.exec = Jvm.exec) {x y : Int64} (hd : decode c.code pc = .ok (.lmul, 1)) (hq : pc + 1 = q)  (K : own_Go p e below s kc ks Q (T.setTop (mkF m q Ls (.long (x * y) :: st)))) : own_Go p e below s kc ks Q (T.setTop (mkF m pc Ls (.long y :: .long x :: st))) := by
  subst hq; exact own_via (fun t => XT.lmul X.here hx rfl hd rfl) K
theorem own_land (X : Stand p l e R s m args below meth c T locs cells slots) (hx : p.tables.exec = Jvm.exec) {x y : Int64} (hd : decode c.code pc = .ok (.land, 1)) (hq : pc + 1 = q)  (K : own_Go p e below s kc ks Q (T.setTop (mkF m q Ls (.long (x &&& y) :: st)))) : own_Go p e below s kc ks Q (T.setTop (mkF m pc Ls (.long y :: .long x :: st))) := by
  subst hq; exact own_via (fun t => XT.land X.here hx rfl hd rfl) K
theorem own_lor (X : Stand p l e R s m args below meth c T locs cells slots) (hx : p.tables.exec = Jvm.exec) {x y : Int64} (hd : decode c.code pc = .ok (.lor, 1)) (hq : pc + 1 = q)  (K : own_Go p e below s kc ks Q (T.setTop (mkF m q Ls (.long (x ||| y) :: st)))) : own_Go p e below s kc ks Q (T.setTop (mkF m pc Ls (.long y :: .long x :: st))) := by
  subst hq; exact own_via (fun t => XT.lor X.here hx rfl hd rfl) K
theorem own_lxor (X : Stand p l e R s m args below meth c T locs cells slots) (hx : p.tables.exec = Jvm.exec) {x y : Int64} (hd : decode c.code pc = .ok (.lxor, 1)) (hq : pc + 1 = q)  (K : own_Go p e below s kc ks Q (T.setTop (mkF m q Ls (.long (x ^^^ y) :: st)))) : own_Go p e below s kc ks Q (T.setTop (mkF m pc Ls (.long y :: .long x :: st))) := by
  subst hq; exact own_via (fun t => XT.lxor X.here hx rfl hd rfl) K
theorem own_ldiv (X : Stand p l e R s m args below meth c T locs cells slots) (hx : p.tables.exec = Jvm.exec) {x y : Int64} (hd : decode c.code pc = .ok (.ldiv, 1)) (hq : pc + 1 = q) (hy : y ≠ 0) (K : own_Go p e below s kc ks Q (T.setTop (mkF m q Ls (.long (x / y) :: st)))) : own_Go p e below s kc ks Q (T.setTop (mkF m pc Ls (.long y :: .long x :: st))) := by
  subst hq; exact own_via (fun t => XT.ldiv X.here hx rfl hd rfl hy) K
theorem own_lshl (X : Stand p l e R s m args below meth c T locs cells slots) (hx : p.tables.exec = Jvm.exec) {x : Int64} {y : Int32} (hd : decode c.code pc = .ok (.lshl, 1)) (hq : pc + 1 = q)  (K : own_Go p e below s kc ks Q (T.setTop (mkF m q Ls (.long (x <<< (y.toInt64 &&& 63)) :: st)))) : own_Go p e below s kc ks Q (T.setTop (mkF m pc Ls (.int y :: .long x :: st))) := by
  subst hq; exact own_via (fun t => XT.lshl X.here hx rfl hd rfl) K
theorem own_lshr (X : Stand p l e R s m args below meth c T locs cells slots) (hx : p.tables.exec = Jvm.exec) {x : Int64} {y : Int32} (hd : decode c.code pc = .ok (.lshr, 1)) (hq : pc + 1 = q)  (K : own_Go p e below s kc ks Q (T.setTop (mkF m q Ls (.long (x >>> (y.toInt64 &&& 63)) :: st)))) : own_Go p e below s kc ks Q (T.setTop (mkF m pc Ls (.int y :: .long x :: st))) := by
  subst hq; exact own_via (fun t => XT.lshr X.here hx rfl hd rfl) K
theorem own_lushr (X : Stand p l e R s m args below meth c T locs cells slots) (hx : p.tables.exec = Jvm.exec) {x : Int64} {y : Int32} (hd : decode c.code pc = .ok (.lushr, 1)) (hq : pc + 1 = q)  (K : own_Go p e below s kc ks Q (T.setTop (mkF m q Ls (.long (XT.ushrL x y) :: st)))) : own_Go p e below s kc ks Q (T.setTop (mkF m pc Ls (.int y :: .long x :: st))) := by
  subst hq; exact own_via (fun t => XT.lushr X.here hx rfl hd rfl) K
theorem own_i2l (X : Stand p l e R s m args below meth c T locs cells slots) (hx : p.tables.exec = Jvm.exec) {x : Int32} (hd : decode c.code pc = .ok (.i2l, 1)) (hq : pc + 1 = q)  (K : own_Go p e below s kc ks Q (T.setTop (mkF m q Ls (.long x.toInt64 :: st)))) : own_Go p e below s kc ks Q (T.setTop (mkF m pc Ls (.int x :: st))) := by
  subst hq; exact own_via (fun t => XT.i2l X.here hx rfl hd rfl) K
theorem own_l2i (X : Stand p l e R s m args below meth c T locs cells slots) (hx : p.tables.exec = Jvm.exec) {x : Int64} (hd : decode c.code pc = .ok (.l2i, 1)) (hq : pc + 1 = q)  (K : own_Go p e below s kc ks Q (T.setTop (mkF m q Ls (.int x.toInt32 :: st)))) : own_Go p e below s kc ks Q (T.setTop (mkF m pc Ls (.long x :: st))) := by
  subst hq; exact own_via (fun t => XT.l2i X.here hx rfl hd rfl) K
theorem own_i2c (X : Stand p l e R s m args below meth c T locs cells slots) (hx : p.tables.exec = Jvm.exec) {x : Int32} (hd : decode c.code pc = .ok (.i2c, 1)) (hq : pc + 1 = q)  (K : own_Go p e below s kc ks Q (T.setTop (mkF m q Ls (.int x.toUInt32.toUInt16.toUInt32.toInt32 :: st)))) : own_Go p e below s kc ks Q (T.setTop (mkF m pc Ls (.int x :: st))) := by
  subst hq; exact own_via (fun t => XT.i2c X.here hx rfl hd rfl) K
theorem own_i2b (X : Stand p l e R s m args below meth c T locs cells slots) (hx : p.tables.exec = Jvm.exec) {x : Int32} (hd : decode c.code pc = .ok (.i2b, 1)) (hq : pc + 1 = q)  (K : own_Go p e below s kc ks Q (T.setTop (mkF m q Ls (.int x.toInt8.toInt32 :: st)))) : own_Go p e below s kc ks Q (T.setTop (mkF m pc Ls (.int x :: st))) := by
  subst hq; exact own_via (fun t => XT.i2b X.here hx rfl hd rfl) K
theorem own_lcmp (X : Stand p l e R s m args below meth c T locs cells slots) (hx : p.tables.exec = Jvm.exec) {x y : Int64} (hd : decode c.code pc = .ok (.lcmp, 1)) (hq : pc + 1 = q)  (K : own_Go p e below s kc ks Q (T.setTop (mkF m q Ls (.int (XT.cmpL x y) :: st)))) : own_Go p e below s kc ks Q (T.setTop (mkF m pc Ls (.long y :: .long x :: st))) := by
  subst hq; exact own_via (fun t => XT.lcmp X.here hx rfl hd rfl) K
theorem own_iconst (X : Stand p l e R s m args below meth c T locs cells slots) (hx : p.tables.exec = Jvm.exec) {i : Int} (v : Int32) (hd : decode c.code pc = .ok (.iconst i, 1)) (hq : pc + 1 = q) (hv : Int32.ofInt i = v) (K : own_Go p e below s kc ks Q (T.setTop (mkF m q Ls (.int v :: st)))) : own_Go p e below s kc ks Q (T.setTop (mkF m pc Ls st)) := by
  subst hq; exact own_via (fun t => XT.iconstV (v := v) X.here hx rfl hd hv) K
theorem own_bipush (X : Stand p l e R s m args below meth c T locs cells slots) (hx : p.tables.exec = Jvm.exec) {i : Int} (v : Int32) (hd : decode c.code pc = .ok (.bipush i, 2)) (hq : pc + 2 = q) (hv : (Int8.ofInt i).toInt32 = v) (K : own_Go p e below s kc ks Q (T.setTop (mkF m q Ls (.int v :: st)))) : own_Go p e below s kc ks Q (T.setTop (mkF m pc Ls st)) := by
  subst hq; exact own_via (fun t => XT.bipushV (v := v) X.here hx rfl hd hv) K
theorem own_sipush (X : Stand p l e R s m args below meth c T locs cells slots) (hx : p.tables.exec = Jvm.exec) {i : Int} (v : Int32) (hd : decode c.code pc = .ok (.sipush i, 3)) (hq : pc + 3 = q) (hv : (Int16.ofInt i).toInt32 = v) (K : own_Go p e below s kc ks Q (T.setTop (mkF m q Ls (.int v :: st)))) : own_Go p e below s kc ks Q (T.setTop (mkF m pc Ls st)) := by
  subst hq; exact own_via (fun t => XT.sipushV (v := v) X.here hx rfl hd hv) K
theorem own_lconst (X : Stand p l e R s m args below meth c T locs cells slots) (hx : p.tables.exec = Jvm.exec) {i : Fin 2} (v : Int64) (hd : decode c.code pc = .ok (.lconst i, 1)) (hq : pc + 1 = q) (hv : Int64.ofNat i = v) (K : own_Go p e below s kc ks Q (T.setTop (mkF m q Ls (.long v :: st)))) : own_Go p e below s kc ks Q (T.setTop (mkF m pc Ls st)) := by
  subst hq; exact own_via (fun t => XT.lconstV (v := v) X.here hx rfl hd hv) K
theorem own_aconstNull (X : Stand p l e R s m args below meth c T locs cells slots) (hx : p.tables.exec = Jvm.exec)  (hd : decode c.code pc = .ok (.aconst_null, 1)) (hq : pc + 1 = q)  (K : own_Go p e below s kc ks Q (T.setTop (mkF m q Ls (.null :: st)))) : own_Go p e below s kc ks Q (T.setTop (mkF m pc Ls st)) := by
  subst hq; exact own_via (fun t => XS.aconstNull X.here hx rfl hd ) K
theorem own_iloadN (X : Stand p l e R s m args below meth c T locs cells slots) (hx : p.tables.exec = Jvm.exec) {k : Fin 4} {v : Int32} (hd : decode c.code pc = .ok (.iload_n k, 1)) (hq : pc + 1 = q) (hl : Ls[k.val]? = some (.val (.int v))) (K : own_Go p e below s kc ks Q (T.setTop (mkF m q Ls (.int v :: st)))) : own_Go p e below s kc ks Q (T.setTop (mkF m pc Ls st)) := by
  subst hq; exact own_via (fun t => XS.iloadN X.here hx rfl hd hl) K
theorem own_iload (X : Stand p l e R s m args below meth c T locs cells slots) (hx : p.tables.exec = Jvm.exec) {k : Nat} {v : Int32} (hd : decode c.code pc = .ok (.iload k, 2)) (hq : pc + 2 = q) (hl : Ls[k]? = some (.val (.int v))) (K : own_Go p e below s kc ks Q (T.setTop (mkF m q Ls (.int v :: st)))) : own_Go p e below s kc ks Q (T.setTop (mkF m pc Ls st)) := by
  subst hq; exact own_via (fun t => XS.iload X.here hx rfl hd hl) K
theorem own_lloadN (X : Stand p l e R s m args below meth c T locs cells slots) (hx : p.tables.exec = Jvm.exec) {k : Fin 4} {v : Int64} (hd : decode c.code pc = .ok (.lload_n k, 1)) (hq : pc + 1 = q) (hl : Ls[k.val]? = some (.val (.long v))) (K : own_Go p e below s kc ks Q (T.setTop (mkF m q Ls (.long v :: st)))) : own_Go p e below s kc ks Q (T.setTop (mkF m pc Ls st)) := by
  subst hq; exact own_via (fun t => XT.lloadN X.here hx rfl hd hl) K
theorem own_lload (X : Stand p l e R s m args below meth c T locs cells slots) (hx : p.tables.exec = Jvm.exec) {k : Nat} {v : Int64} (hd : decode c.code pc = .ok (.lload k, 2)) (hq : pc + 2 = q) (hl : Ls[k]? = some (.val (.long v))) (K : own_Go p e below s kc ks Q (T.setTop (mkF m q Ls (.long v :: st)))) : own_Go p e below s kc ks Q (T.setTop (mkF m pc Ls st)) := by
  subst hq; exact own_via (fun t => XT.lload X.here hx rfl hd hl) K
theorem own_aloadN (X : Stand p l e R s m args below meth c T locs cells slots) (hx : p.tables.exec = Jvm.exec) {k : Fin 4} {v : Value} (hd : decode c.code pc = .ok (.aload_n k, 1)) (hq : pc + 1 = q) (hl : Ls[k.val]? = some (.val v)) (hv : v.isRef = true) (K : own_Go p e below s kc ks Q (T.setTop (mkF m q Ls (v :: st)))) : own_Go p e below s kc ks Q (T.setTop (mkF m pc Ls st)) := by
  subst hq; exact own_via (fun t => XS.aloadN X.here hx rfl hd hl hv) K
theorem own_aload (X : Stand p l e R s m args below meth c T locs cells slots) (hx : p.tables.exec = Jvm.exec) {k : Nat} {v : Value} (hd : decode c.code pc = .ok (.aload k, 2)) (hq : pc + 2 = q) (hl : Ls[k]? = some (.val v)) (hv : v.isRef = true) (K : own_Go p e below s kc ks Q (T.setTop (mkF m q Ls (v :: st)))) : own_Go p e below s kc ks Q (T.setTop (mkF m pc Ls st)) := by
  subst hq; exact own_via (fun t => XS.aload X.here hx rfl hd hl hv) K
theorem own_istoreN (X : Stand p l e R s m args below meth c T locs cells slots) (hx : p.tables.exec = Jvm.exec) {k : Fin 4} {v : Int32} (hd : decode c.code pc = .ok (.istore_n k, 1)) (hq : pc + 1 = q) (hl : storeLocals Ls k.val (.int v) = some L') (K : own_Go p e below s kc ks Q (T.setTop (mkF m q L' st))) : own_Go p e below s kc ks Q (T.setTop (mkF m pc Ls (.int v :: st))) := by
  subst hq; exact own_via (fun t => XS.istoreN X.here hx rfl hd rfl hl) K
theorem own_istore (X : Stand p l e R s m args below meth c T locs cells slots) (hx : p.tables.exec = Jvm.exec) {k : Nat} {v : Int32} (hd : decode c.code pc = .ok (.istore k, 2)) (hq : pc + 2 = q) (hl : storeLocals Ls k (.int v) = some L') (K : own_Go p e below s kc ks Q (T.setTop (mkF m q L' st))) : own_Go p e below s kc ks Q (T.setTop (mkF m pc Ls (.int v :: st))) := by
  subst hq; exact own_via (fun t => XS.istore X.here hx rfl hd rfl hl) K
theorem own_lstoreN (X : Stand p l e R s m args below meth c T locs cells slots) (hx : p.tables.exec = Jvm.exec) {k : Fin 4} {v : Int64} (hd : decode c.code pc = .ok (.lstore_n k, 1)) (hq : pc + 1 = q) (hl : storeLocals Ls k.val (.long v) = some L') (K : own_Go p e below s kc ks Q (T.setTop (mkF m q L' st))) : own_Go p e below s kc ks Q (T.setTop (mkF m pc Ls (.long v :: st))) := by
  subst hq; exact own_via (fun t => XT.lstoreN X.here hx rfl hd rfl hl) K
theorem own_lstore (X : Stand p l e R s m args below meth c T locs cells slots) (hx : p.tables.exec = Jvm.exec) {k : Nat} {v : Int64} (hd : decode c.code pc = .ok (.lstore k, 2)) (hq : pc + 2 = q) (hl : storeLocals Ls k (.long v) = some L') (K : own_Go p e below s kc ks Q (T.setTop (mkF m q L' st))) : own_Go p e below s kc ks Q (T.setTop (mkF m pc Ls (.long v :: st))) := by
  subst hq; exact own_via (fun t => XT.lstore X.here hx rfl hd rfl hl) K
theorem own_astoreN (X : Stand p l e R s m args below meth c T locs cells slots) (hx : p.tables.exec = Jvm.exec) {k : Fin 4} {v : Value} (hd : decode c.code pc = .ok (.astore_n k, 1)) (hq : pc + 1 = q) (hv : v.isRef = true) (hl : storeLocals Ls k.val v = some L') (K : own_Go p e below s kc ks Q (T.setTop (mkF m q L' st))) : own_Go p e below s kc ks Q (T.setTop (mkF m pc Ls (v :: st))) := by
  subst hq; exact own_via (fun t => XS.astoreN X.here hx rfl hd rfl hv hl) K
theorem own_astore (X : Stand p l e R s m args below meth c T locs cells slots) (hx : p.tables.exec = Jvm.exec) {k : Nat} {v : Value} (hd : decode c.code pc = .ok (.astore k, 2)) (hq : pc + 2 = q) (hv : v.isRef = true) (hl : storeLocals Ls k v = some L') (K : own_Go p e below s kc ks Q (T.setTop (mkF m q L' st))) : own_Go p e below s kc ks Q (T.setTop (mkF m pc Ls (v :: st))) := by
  subst hq; exact own_via (fun t => XS.astore X.here hx rfl hd rfl hv hl) K
theorem own_iinc (X : Stand p l e R s m args below meth c T locs cells slots) (hx : p.tables.exec = Jvm.exec) {k : Nat} {i : Int} {x : Int32} (v : Int32) (hd : decode c.code pc = .ok (.iinc k i, 3)) (hq : pc + 3 = q) (hv : Int32.ofInt i = v) (hl : Ls[k]? = some (.val (.int x))) (hl' : storeLocals Ls k (.int (x + v)) = some L') (K : own_Go p e below s kc ks Q (T.setTop (mkF m q L' st))) : own_Go p e below s kc ks Q (T.setTop (mkF m pc Ls st)) := by
  subst hq; exact own_via (fun t => XT.iincV (v := v) X.here hx rfl hd hv hl hl') K
theorem own_dup (X : Stand p l e R s m args below meth c T locs cells slots) (hx : p.tables.exec = Jvm.exec) {v : Value} (hd : decode c.code pc = .ok (.dup, 1)) (hq : pc + 1 = q) (hc : v.category = 1) (K : own_Go p e below s kc ks Q (T.setTop (mkF m q Ls (v :: v :: st)))) : own_Go p e below s kc ks Q (T.setTop (mkF m pc Ls (v :: st))) := by
  subst hq; exact own_via (fun t => XS.dup X.here hx rfl hd rfl hc) K
theorem own_pop (X : Stand p l e R s m args below meth c T locs cells slots) (hx : p.tables.exec = Jvm.exec) {v : Value} (hd : decode c.code pc = .ok (.pop, 1)) (hq : pc + 1 = q) (hc : v.category = 1) (K : own_Go p e below s kc ks Q (T.setTop (mkF m q Ls st))) : own_Go p e below s kc ks Q (T.setTop (mkF m pc Ls (v :: st))) := by
  subst hq; exact own_via (fun t => XT.pop X.here hx rfl hd rfl hc) K
theorem own_dupX1 (X : Stand p l e R s m args below meth c T locs cells slots) (hx : p.tables.exec = Jvm.exec) {v w : Value} (hd : decode c.code pc = .ok (.dup_x1, 1)) (hq : pc + 1 = q) (hc : v.category = 1) (hc' : w.category = 1) (K : own_Go p e below s kc ks Q (T.setTop (mkF m q Ls (v :: w :: v :: st)))) : own_Go p e below s kc ks Q (T.setTop (mkF m pc Ls (v :: w :: st))) := by
  subst hq; exact own_via (fun t => XT.dupX1 X.here hx rfl hd rfl hc hc') K
theorem own_dup2 (X : Stand p l e R s m args below meth c T locs cells slots) (hx : p.tables.exec = Jvm.exec) {v w : Value} (hd : decode c.code pc = .ok (.dup2, 1)) (hq : pc + 1 = q) (hc : v.category = 1) (hc' : w.category = 1) (K : own_Go p e below s kc ks Q (T.setTop (mkF m q Ls (v :: w :: v :: w :: st)))) : own_Go p e below s kc ks Q (T.setTop (mkF m pc Ls (v :: w :: st))) := by
  subst hq; exact own_via (fun t => XT.dup2 X.here hx rfl hd rfl hc hc') K
theorem own_goto (X : Stand p l e R s m args below meth c T locs cells slots) (hx : p.tables.exec = Jvm.exec) {o : Int} (hd : decode c.code pc = .ok (.goto o, 3)) (ho : 0 ≤ (pc : Int) + o) (hp : ((pc : Int) + o).toNat = q) (K : own_Go p e below s kc ks Q (T.setTop (mkF m q Ls st))) : own_Go p e below s kc ks Q (T.setTop (mkF m pc Ls st)) := by
  exact own_via (fun t => XS.goto X.here hx rfl (pc0 := pc) (pc' := q) rfl hd ho hp) K
theorem own_ldc (X : Stand p l e R s m args below meth c T locs cells slots) (hx : p.tables.exec = Jvm.exec) {Z : State} {a0 : Array Value} (hZ : Z.Warmed39 s.vm) {own : String} {i : Nat} {v : Int32} (hown : s.vm.findClass own = some m.cls) (w : (Cond.constant own i v).before a0 Z = true) (hd : decode c.code pc = .ok (.ldc i, 2)) (hq : pc + 2 = q) (K : own_Go p e below s kc ks Q (T.setTop (mkF m q Ls (.int v :: st)))) : own_Go p e below s kc ks Q (T.setTop (mkF m pc Ls st)) := by
  subst hq; exact own_via (fun t => X.ldcI hx hown (mv hZ w) rfl hd) K
theorem own_ldcW (X : Stand p l e R s m args below meth c T locs cells slots) (hx : p.tables.exec = Jvm.exec) {Z : State} {a0 : Array Value} (hZ : Z.Warmed39 s.vm) {own : String} {i : Nat} {v : Int32} (hown : s.vm.findClass own = some m.cls) (w : (Cond.constant own i v).before a0 Z = true) (hd : decode c.code pc = .ok (.ldc_w i, 3)) (hq : pc + 3 = q) (K : own_Go p e below s kc ks Q (T.setTop (mkF m q Ls (.int v :: st)))) : own_Go p e below s kc ks Q (T.setTop (mkF m pc Ls st)) := by
  subst hq; exact own_via (fun t => X.ldcWI hx hown (mv hZ w) rfl hd) K
theorem own_ldc2 (X : Stand p l e R s m args below meth c T locs cells slots) (hx : p.tables.exec = Jvm.exec) {Z : State} {a0 : Array Value} (hZ : Z.Warmed39 s.vm) {own : String} {i : Nat} {v : Int64} (hown : s.vm.findClass own = some m.cls) (w : (Cond.constantLong own i v).before a0 Z = true) (hd : decode c.code pc = .ok (.ldc2_w i, 3)) (hq : pc + 3 = q) (K : own_Go p e below s kc ks Q (T.setTop (mkF m q Ls (.long v :: st)))) : own_Go p e below s kc ks Q (T.setTop (mkF m pc Ls st)) := by
  subst hq; exact own_via (fun t => X.ldc2J hx hown (mv hZ w) rfl hd) K
def own_pos : ClassFile.Cond → Bool | .eq => true | .lt => true | .gt => true | _ => false
def own_base {α : Type} [LT α] : ClassFile.Cond → α → α → Prop | .eq, x, y => x = y | .ne, x, y => x = y | .lt, x, y => x < y | .ge, x, y => x < y | .gt, x, y => y < x | .le, x, y => y < x
theorem own_ii {cd : ClassFile.Cond} {x y : Int32} : (own_base cd x y → if_icmp.holds cd x y = own_pos cd) ∧ (¬ own_base cd x y → if_icmp.holds cd x y = !own_pos cd) := by
  cases cd <;> simp only [own_base, own_pos, Bool.not_true, Bool.not_false]
  · exact ⟨XT.ii_eq_t, XT.ii_eq_f⟩
  · exact ⟨XT.ii_ne_f, XT.ii_ne_t⟩
  · exact ⟨XT.ii_lt_t, XT.ii_lt_f⟩
  · exact ⟨XT.ii_ge_f, XT.ii_ge_t⟩
  · exact ⟨XT.ii_gt_t, XT.ii_gt_f⟩
  · exact ⟨XT.ii_le_f, XT.ii_le_t⟩
theorem own_ll {cd : ClassFile.Cond} {x y : Int64} : (own_base cd x y → ifCond.holds cd (XT.cmpL x y) = own_pos cd) ∧ (¬ own_base cd x y → ifCond.holds cd (XT.cmpL x y) = !own_pos cd) := by
  cases cd <;> simp only [own_base, own_pos, Bool.not_true, Bool.not_false]
  · exact ⟨XT.ll_eq_t, XT.ll_eq_f⟩
  · exact ⟨XT.ll_ne_f, XT.ll_ne_t⟩
  · exact ⟨XT.ll_lt_t, XT.ll_lt_f⟩
  · exact ⟨XT.ll_ge_f, XT.ll_ge_t⟩
  · exact ⟨XT.ll_gt_t, XT.ll_gt_f⟩
  · exact ⟨XT.ll_le_f, XT.ll_le_t⟩
theorem own_icmpP (X : Stand p l e R s m args below meth c T locs cells slots) (hx : p.tables.exec = Jvm.exec) {x y : Int32} {cd : ClassFile.Cond} {o : Int} {pt : Nat} (hd : decode c.code pc = .ok (.if_icmp cd o, 3)) (ho : 0 ≤ (pc : Int) + o) (hp : ((pc : Int) + o).toNat = pt) (hq : pc + 3 = q) (hs : own_pos cd = true) (K1 : own_base cd x y → own_Go p e below s kc ks Q (T.setTop (mkF m pt Ls st))) (K2 : ¬ own_base cd x y → own_Go p e below s kc ks Q (T.setTop (mkF m q Ls st))) : own_Go p e below s kc ks Q (T.setTop (mkF m pc Ls (.int y :: .int x :: st))) := by
  subst hq
  by_cases h : own_base cd x y
  · exact own_via (fun t => XS.icmpYes X.here hx rfl (pc0 := pc) (pc' := pt) rfl hd rfl ((own_ii.1 h).trans hs) ho hp) (K1 h)
  · exact own_via (fun t => XS.icmpNo X.here hx rfl hd rfl ((own_ii.2 h).trans (by rw [hs]; rfl))) (K2 h)
theorem own_icmpM (X : Stand p l e R s m args below meth c T locs cells slots) (hx : p.tables.exec = Jvm.exec) {x y : Int32} {cd : ClassFile.Cond} {o : Int} {pt : Nat} (hd : decode c.code pc = .ok (.if_icmp cd o, 3)) (ho : 0 ≤ (pc : Int) + o) (hp : ((pc : Int) + o).toNat = pt) (hq : pc + 3 = q) (hs : own_pos cd = false) (K1 : ¬ own_base cd x y → own_Go p e below s kc ks Q (T.setTop (mkF m pt Ls st))) (K2 : own_base cd x y → own_Go p e below s kc ks Q (T.setTop (mkF m q Ls st))) : own_Go p e below s kc ks Q (T.setTop (mkF m pc Ls (.int y :: .int x :: st))) := by
  subst hq
  by_cases h : own_base cd x y
  · exact own_via (fun t => XS.icmpNo X.here hx rfl hd rfl ((own_ii.1 h).trans hs)) (K2 h)
  · exact own_via (fun t => XS.icmpYes X.here hx rfl (pc0 := pc) (pc' := pt) rfl hd rfl ((own_ii.2 h).trans (by rw [hs]; rfl)) ho hp) (K1 h)
theorem own_if0P (X : Stand p l e R s m args below meth c T locs cells slots) (hx : p.tables.exec = Jvm.exec) {x : Int32} {cd : ClassFile.Cond} {o : Int} {pt : Nat} (hd : decode c.code pc = .ok (.ifCond cd o, 3)) (ho : 0 ≤ (pc : Int) + o) (hp : ((pc : Int) + o).toNat = pt) (hq : pc + 3 = q) (hs : own_pos cd = true) (K1 : own_base cd x (0 : Int32) → own_Go p e below s kc ks Q (T.setTop (mkF m pt Ls st))) (K2 : ¬ own_base cd x (0 : Int32) → own_Go p e below s kc ks Q (T.setTop (mkF m q Ls st))) : own_Go p e below s kc ks Q (T.setTop (mkF m pc Ls (.int x :: st))) := by
  subst hq
  by_cases h : own_base cd x (0 : Int32)
  · exact own_via (fun t => XS.ifYes X.here hx rfl (pc0 := pc) (pc' := pt) rfl hd rfl ((if0 cd x).trans ((own_ii (y := 0).1 h).trans hs)) ho hp) (K1 h)
  · exact own_via (fun t => XS.ifNo X.here hx rfl hd rfl ((if0 cd x).trans ((own_ii (y := 0).2 h).trans (by rw [hs]; rfl)))) (K2 h)
theorem own_if0M (X : Stand p l e R s m args below meth c T locs cells slots) (hx : p.tables.exec = Jvm.exec) {x : Int32} {cd : ClassFile.Cond} {o : Int} {pt : Nat} (hd : decode c.code pc = .ok (.ifCond cd o, 3)) (ho : 0 ≤ (pc : Int) + o) (hp : ((pc : Int) + o).toNat = pt) (hq : pc + 3 = q) (hs : own_pos cd = false) (K1 : ¬ own_base cd x (0 : Int32) → own_Go p e below s kc ks Q (T.setTop (mkF m pt Ls st))) (K2 : own_base cd x (0 : Int32) → own_Go p e below s kc ks Q (T.setTop (mkF m q Ls st))) : own_Go p e below s kc ks Q (T.setTop (mkF m pc Ls (.int x :: st))) := by
  subst hq
  by_cases h : own_base cd x (0 : Int32)
  · exact own_via (fun t => XS.ifNo X.here hx rfl hd rfl ((if0 cd x).trans ((own_ii (y := 0).1 h).trans hs))) (K2 h)
  · exact own_via (fun t => XS.ifYes X.here hx rfl (pc0 := pc) (pc' := pt) rfl hd rfl ((if0 cd x).trans ((own_ii (y := 0).2 h).trans (by rw [hs]; rfl))) ho hp) (K1 h)
theorem own_ifLP (X : Stand p l e R s m args below meth c T locs cells slots) (hx : p.tables.exec = Jvm.exec) {x y : Int64} {cd : ClassFile.Cond} {o : Int} {pt : Nat} (hd : decode c.code pc = .ok (.ifCond cd o, 3)) (ho : 0 ≤ (pc : Int) + o) (hp : ((pc : Int) + o).toNat = pt) (hq : pc + 3 = q) (hs : own_pos cd = true) (K1 : own_base cd x y → own_Go p e below s kc ks Q (T.setTop (mkF m pt Ls st))) (K2 : ¬ own_base cd x y → own_Go p e below s kc ks Q (T.setTop (mkF m q Ls st))) : own_Go p e below s kc ks Q (T.setTop (mkF m pc Ls (.int (XT.cmpL x y) :: st))) := by
  subst hq
  by_cases h : own_base cd x y
  · exact own_via (fun t => XS.ifYes X.here hx rfl (pc0 := pc) (pc' := pt) rfl hd rfl ((own_ll.1 h).trans hs) ho hp) (K1 h)
  · exact own_via (fun t => XS.ifNo X.here hx rfl hd rfl ((own_ll.2 h).trans (by rw [hs]; rfl))) (K2 h)
theorem own_ifLM (X : Stand p l e R s m args below meth c T locs cells slots) (hx : p.tables.exec = Jvm.exec) {x y : Int64} {cd : ClassFile.Cond} {o : Int} {pt : Nat} (hd : decode c.code pc = .ok (.ifCond cd o, 3)) (ho : 0 ≤ (pc : Int) + o) (hp : ((pc : Int) + o).toNat = pt) (hq : pc + 3 = q) (hs : own_pos cd = false) (K1 : ¬ own_base cd x y → own_Go p e below s kc ks Q (T.setTop (mkF m pt Ls st))) (K2 : own_base cd x y → own_Go p e below s kc ks Q (T.setTop (mkF m q Ls st))) : own_Go p e below s kc ks Q (T.setTop (mkF m pc Ls (.int (XT.cmpL x y) :: st))) := by
  subst hq
  by_cases h : own_base cd x y
  · exact own_via (fun t => XS.ifNo X.here hx rfl hd rfl ((own_ll.1 h).trans hs)) (K2 h)
  · exact own_via (fun t => XS.ifYes X.here hx rfl (pc0 := pc) (pc' := pt) rfl hd rfl ((own_ll.2 h).trans (by rw [hs]; rfl)) ho hp) (K1 h)
theorem own_acmp (X : Stand p l e R s m args below meth c T locs cells slots) (hx : p.tables.exec = Jvm.exec) {cd : ACond} {v w : Value} {o : Int} {same : Bool} (hv : v.isRef = true) (hw : w.isRef = true) (hd : decode c.code pc = .ok (.if_acmp cd o, 3)) (hs : decide (v = w) = same) (ho : 0 ≤ (pc : Int) + o) (hp : q = if acV cd same = true then ((pc : Int) + o).toNat else pc + 3) (K : own_Go p e below s kc ks Q (T.setTop (mkF m q Ls st))) : own_Go p e below s kc ks Q (T.setTop (mkF m pc Ls (w :: v :: st))) := by
  exact own_via (fun t => acmp X hx rfl hv hw (pc0 := pc) rfl hd rfl hs ho hp) K
theorem own_nullY (X : Stand p l e R s m args below meth c T locs cells slots) (hx : p.tables.exec = Jvm.exec) {o : Int} (hd : decode c.code pc = .ok (.ifnull o, 3)) (ho : 0 ≤ (pc : Int) + o) (hp : ((pc : Int) + o).toNat = q) (K : own_Go p e below s kc ks Q (T.setTop (mkF m q Ls st))) : own_Go p e below s kc ks Q (T.setTop (mkF m pc Ls (.null :: st))) := by
  exact own_via (fun t => XS.ifnullYes X.here hx rfl (pc0 := pc) (pc' := q) rfl hd rfl ho hp) K
theorem own_nullN (X : Stand p l e R s m args below meth c T locs cells slots) (hx : p.tables.exec = Jvm.exec) {o : Int} {a : Addr} (hd : decode c.code pc = .ok (.ifnull o, 3)) (hq : pc + 3 = q) (K : own_Go p e below s kc ks Q (T.setTop (mkF m q Ls st))) : own_Go p e below s kc ks Q (T.setTop (mkF m pc Ls (.ref a :: st))) := by
  subst hq; exact own_via (fun t => XS.ifnullNo X.here hx rfl hd rfl) K
theorem own_nonnullY (X : Stand p l e R s m args below meth c T locs cells slots) (hx : p.tables.exec = Jvm.exec) {o : Int} {a : Addr} (hd : decode c.code pc = .ok (.ifnonnull o, 3)) (ho : 0 ≤ (pc : Int) + o) (hp : ((pc : Int) + o).toNat = q) (K : own_Go p e below s kc ks Q (T.setTop (mkF m q Ls st))) : own_Go p e below s kc ks Q (T.setTop (mkF m pc Ls (.ref a :: st))) := by
  exact own_via (fun t => XT.ifnonnullYes X.here hx rfl (pc0 := pc) (pc' := q) rfl hd rfl ho hp) K
theorem own_nonnullN (X : Stand p l e R s m args below meth c T locs cells slots) (hx : p.tables.exec = Jvm.exec) {o : Int} (hd : decode c.code pc = .ok (.ifnonnull o, 3)) (hq : pc + 3 = q) (K : own_Go p e below s kc ks Q (T.setTop (mkF m q Ls st))) : own_Go p e below s kc ks Q (T.setTop (mkF m pc Ls (.null :: st))) := by
  subst hq; exact own_via (fun t => XT.ifnonnullNo X.here hx rfl hd rfl) K
theorem own_retN (X : Stand p l e R s m args below meth c T locs cells slots) (hx : p.tables.exec = Jvm.exec) (hlk : meth.locks = false) {rest : List Value} {z : Int32} {t : FieldType} (ht : t = .boolean ∨ t = .byte ∨ t = .char ∨ t = .short) (hret : meth.sig.returnType = some t) (hd : decode c.code pc = .ok (.ireturn, 1)) (hqq : Q (some (.int (nar t z))) T.heap locs) (hc : cells ≤ kc) (hs : slots ≤ ks)  : own_Go p e below s kc ks Q (T.setTop (mkF m pc Ls (.int z :: rest))) := by
  obtain ⟨fs, hr, hrun, hended, hW, hsame⟩ := X.leave (v := (some (.int (nar t z)))) (fun h => by rw [hret] at h; cases h) hlk
  exact ⟨_, _, retN X hx hret ht hd hr, hrun, hended, _, _, rfl, hqq, ⟨_, rfl⟩, hW, hsame.mono hc hs⟩
theorem own_retI (X : Stand p l e R s m args below meth c T locs cells slots) (hx : p.tables.exec = Jvm.exec) (hlk : meth.locks = false) {rest : List Value} {z : Int32} (hret : meth.sig.returnType = some .int) (hd : decode c.code pc = .ok (.ireturn, 1)) (hqq : Q (some (.int z)) T.heap locs) (hc : cells ≤ kc) (hs : slots ≤ ks)  : own_Go p e below s kc ks Q (T.setTop (mkF m pc Ls (.int z :: rest))) := by
  obtain ⟨fs, hr, hrun, hended, hW, hsame⟩ := X.leave (v := (some (.int z))) (fun h => by rw [hret] at h; cases h) hlk
  exact ⟨_, _, retOut X hx hret rfl (Or.inl ⟨rfl, Or.inl rfl, z, rfl⟩) hd hr, hrun, hended, _, _, rfl, hqq, ⟨_, rfl⟩, hW, hsame.mono hc hs⟩
theorem own_retJ (X : Stand p l e R s m args below meth c T locs cells slots) (hx : p.tables.exec = Jvm.exec) (hlk : meth.locks = false) {rest : List Value} {z : Int64} (hret : meth.sig.returnType = some .long) (hd : decode c.code pc = .ok (.lreturn, 1)) (hqq : Q (some (.long z)) T.heap locs) (hc : cells ≤ kc) (hs : slots ≤ ks)  : own_Go p e below s kc ks Q (T.setTop (mkF m pc Ls (.long z :: rest))) := by
  obtain ⟨fs, hr, hrun, hended, hW, hsame⟩ := X.leave (v := (some (.long z))) (fun h => by rw [hret] at h; cases h) hlk
  exact ⟨_, _, retOut X hx hret rfl (Or.inr (Or.inl ⟨rfl, rfl, z, rfl⟩)) hd hr, hrun, hended, _, _, rfl, hqq, ⟨_, rfl⟩, hW, hsame.mono hc hs⟩
theorem own_retA (X : Stand p l e R s m args below meth c T locs cells slots) (hx : p.tables.exec = Jvm.exec) (hlk : meth.locks = false) {rest : List Value} {w : Value} {t : FieldType} (hw : w.isRef = true) (ht : t.isReference = true) (hn : narrow t w = w) (hret : meth.sig.returnType = some t) (hd : decode c.code pc = .ok (.areturn, 1)) (hqq : Q (some w) T.heap locs) (hc : cells ≤ kc) (hs : slots ≤ ks)  : own_Go p e below s kc ks Q (T.setTop (mkF m pc Ls (w :: rest))) := by
  obtain ⟨fs, hr, hrun, hended, hW, hsame⟩ := X.leave (v := (some w)) (fun h => by rw [hret] at h; cases h) hlk
  exact ⟨_, _, retOut X hx hret hn (Or.inr (Or.inr (Or.inr (Or.inr ⟨rfl, ht, hw⟩)))) hd hr, hrun, hended, _, _, rfl, hqq, ⟨_, rfl⟩, hW, hsame.mono hc hs⟩
theorem own_retV (X : Stand p l e R s m args below meth c T locs cells slots) (hx : p.tables.exec = Jvm.exec) (hlk : meth.locks = false) {rest : List Value} (hret : meth.sig.returnType = none) (hd : decode c.code pc = .ok (.return_, 1)) (hqq : Q none T.heap locs) (hc : cells ≤ kc) (hs : slots ≤ ks)  : own_Go p e below s kc ks Q (T.setTop (mkF m pc Ls [])) := by
  obtain ⟨fs, hr, hrun, hended, hW, hsame⟩ := X.leave (v := none) (fun _ => rfl) hlk
  exact ⟨_, _, X.returnOut hx hret hd hr, hrun, hended, _, _, rfl, hqq, ⟨_, rfl⟩, hW, hsame.mono hc hs⟩
theorem own_callS (X : Stand p l e R s m args below meth c T locs cells slots) (hx : p.tables.exec = Jvm.exec) {Z : State} {a0 : Array Value} {h : Heap} {own : String} {index : Nat} {y : MethodName} {bytes : ByteArray} {maxL : Nat} {ret : Option FieldType} {rm : Room} {W : Nat} {argsL : List Value} {Qc : Option Value → Heap → List Loc → Prop} {ps : List FieldType} {r : Option FieldType} {st0 : List Value} (hZ : Z.Warmed39 s.vm) (hown : s.vm.findClass own = some m.cls) (w1 : (Cond.methodLink own index y).before a0 Z = true) (w2 : (Cond.static y).before a0 Z = true) (w3 : (Cond.initialized y.cls).before a0 Z = true) (w4 : (Cond.code y bytes maxL ret).before a0 Z = true) (hy : y.cls ≠ "java/lang/invoke/MethodHandle" ∧ y.cls ≠ "java/lang/invoke/VarHandle") (hM : MetFree l y (head1 [Cond.code y bytes maxL ret] rm) (fun aa U => aa = argsL.toArray ∧ Z.Warmed39 U.vm ∧ U.heap = h) (fun _ _ _ _ _ => True) (fun _ U o U' => ∃ v L, o = .returned v ∧ Qc v U'.heap L ∧ FrameEnd U o U' L rm.cells rm.slots)) (hpd : parseMethodDescriptor y.desc = some ⟨ps, r⟩) (hlen : argsL.length = ps.length) (eT : T.heap = h) (hml : Ls.size = c.maxLocals) (hst : st0 = argsL.reverse ++ st) (hW : (st.map fun v => v.category).sum ≤ W) (hf : rm.frames + 1 ≤ R.frames) (hl : W + (maxL + 11) + rm.locals ≤ R.locals) (hc : cells + rm.cells ≤ R.cells) (hs : slots + rm.slots ≤ R.slots) (hd : decode c.code pc = .ok (.invokestatic index, 3)) (hq : pc + 3 = q) (K : ∀ v T' L, Stand p l e R s m args below meth c T' (locs ++ L) (cells + rm.cells) (slots + rm.slots) → Qc v T'.heap L → own_Go p e below s kc ks Q (T'.setTop (mkF m q Ls (v.toList ++ st)))) : own_Go p e below s kc ks Q (T.setTop (mkF m pc Ls st0)) := by
  subst hq hst
  obtain ⟨v, _, ⟨T', L', k', n'⟩, -, X', ⟨Lc, hQ, l', y', z'⟩, st'⟩ := Jvm.LawKit.callS X hx hown (mvT hZ w1) (mvT hZ w2) (mvT hZ w3) (mvT hZ w4) hy (backOf (W := W) hM hZ w4 w3 hf hl) (g := mkF m pc Ls (argsL.reverse ++ st)) rfl hml (argsL := argsL) (rest := st) (lenOf hpd hlen) rfl (by show 2 * 0 + _ ≤ _; omega) hd (fun _ _ => ⟨rfl, eT, hc, hs⟩)
  dsimp only [Pt.U, Pt.locs, Pt.cells, Pt.slots] at X' l' y' z' st' hQ
  subst l' y' z'
  exact own_via (fun t => st' t) (K v T' Lc X' hQ)
theorem own_callC (X : Stand p l e R s m args below meth c T locs cells slots) (hx : p.tables.exec = Jvm.exec) {a : Addr} {Z : State} {a0 : Array Value} {h : Heap} {own : String} {index : Nat} {y : MethodName} {bytes : ByteArray} {maxL : Nat} {rm : Room} {W : Nat} {argsL : List Value} {Qc : Option Value → Heap → List Loc → Prop} {ps : List FieldType} {r : Option FieldType} {st0 : List Value} (hZ : Z.Warmed39 s.vm) (hown : s.vm.findClass own = some m.cls) (hy1 : y.name = "<init>") (w1 : (Cond.methodLink own index y).before a0 Z = true) (w2 : (Cond.instanceMethod y).before a0 Z = true) (w3 : (Cond.initialized y.cls).before a0 Z = true) (w4 : (Cond.code y bytes maxL none).before a0 Z = true) (hy : y.cls ≠ "java/lang/invoke/MethodHandle" ∧ y.cls ≠ "java/lang/invoke/VarHandle") (hM : MetFree l y (head1 [Cond.code y bytes maxL none] rm) (fun aa U => aa = (.ref a :: argsL).toArray ∧ Z.Warmed39 U.vm ∧ U.heap = h) (fun _ _ _ _ _ => True) (fun _ U o U' => ∃ v L, o = .returned v ∧ Qc v U'.heap L ∧ FrameEnd U o U' L rm.cells rm.slots)) (hpd : parseMethodDescriptor y.desc = some ⟨ps, r⟩) (hlen : argsL.length = ps.length) (eT : T.heap = h) (hml : Ls.size = c.maxLocals) (hst : st0 = argsL.reverse ++ .ref a :: st) (hW : (st.map fun v => v.category).sum ≤ W) (hf : rm.frames + 1 ≤ R.frames) (hl : W + (maxL + 11) + rm.locals ≤ R.locals) (hc : cells + rm.cells ≤ R.cells) (hs : slots + rm.slots ≤ R.slots) (hd : decode c.code pc = .ok (.invokespecial index, 3)) (hq : pc + 3 = q) (K : ∀ v T' L, Stand p l e R s m args below meth c T' (locs ++ L) (cells + rm.cells) (slots + rm.slots) → Qc v T'.heap L → own_Go p e below s kc ks Q (T'.setTop (mkF m q Ls (v.toList ++ st)))) : own_Go p e below s kc ks Q (T.setTop (mkF m pc Ls st0)) := by
  subst hq hst
  obtain ⟨v, _, ⟨T', L', k', n'⟩, -, X', ⟨Lc, hQ, l', y', z'⟩, st'⟩ := X.specialBack hx hy1 hown (mvT hZ w1) (mvT hZ w2) (mvT hZ w4) hy (backOf (W := W) hM hZ w4 w3 hf hl) (g := mkF m pc Ls (argsL.reverse ++ .ref a :: st)) rfl hml (Steps.refl _) (a := a) (argsL := argsL) (rest := st) (lenOf hpd hlen) rfl (by show 2 * 0 + _ ≤ _; omega) hd (fun _ _ => ⟨rfl, eT, hc, hs⟩)
  dsimp only [Pt.U, Pt.locs, Pt.cells, Pt.slots] at X' l' y' z' st' hQ
  subst l' y' z'
  exact own_via (fun t => st'.trans) (K v T' Lc X' hQ)
theorem own_callV (X : Stand p l e R s m args below meth c T locs cells slots) (hx : p.tables.exec = Jvm.exec) {a : Addr} {C : String} {z : MethodName} {Z : State} {a0 : Array Value} {h : Heap} {own : String} {index : Nat} {y : MethodName} {bytes : ByteArray} {maxL : Nat} {ret : Option FieldType} {rm : Room} {W : Nat} {argsL : List Value} {Qc : Option Value → Heap → List Loc → Prop} {ps : List FieldType} {r : Option FieldType} {st0 : List Value} (hZ : Z.Warmed39 s.vm) (hown : s.vm.findClass own = some m.cls) (w1 : (Cond.methodLink own index y).before a0 Z = true) (w2 : (Cond.declares y).before a0 Z = true) (w5 : (Cond.selects y.cls y y).before a0 Z = true) (w6 : (Cond.selects C y z).before a0 Z = true) (w7 : (Cond.instanceMethod z).before a0 Z = true) (w3 : (Cond.initialized z.cls).before a0 Z = true) (w4 : (Cond.code z bytes maxL ret).before a0 Z = true) (E : Exa Z h a C) (hy : y.cls ≠ "java/lang/invoke/MethodHandle" ∧ y.cls ≠ "java/lang/invoke/VarHandle") (hM : MetFree l z (head1 [Cond.code z bytes maxL ret] rm) (fun aa U => aa = (.ref a :: argsL).toArray ∧ Z.Warmed39 U.vm ∧ U.heap = h) (fun _ _ _ _ _ => True) (fun _ U o U' => ∃ v L, o = .returned v ∧ Qc v U'.heap L ∧ FrameEnd U o U' L rm.cells rm.slots)) (hpd : parseMethodDescriptor y.desc = some ⟨ps, r⟩) (hlen : argsL.length = ps.length) (eT : T.heap = h) (hml : Ls.size = c.maxLocals) (hst : st0 = argsL.reverse ++ .ref a :: st) (hW : (st.map fun v => v.category).sum ≤ W) (hf : rm.frames + 1 ≤ R.frames) (hl : W + (maxL + 11) + rm.locals ≤ R.locals) (hc : cells + rm.cells ≤ R.cells) (hs : slots + rm.slots ≤ R.slots) (hd : decode c.code pc = .ok (.invokevirtual index, 3)) (hq : pc + 3 = q) (K : ∀ v T' L, Stand p l e R s m args below meth c T' (locs ++ L) (cells + rm.cells) (slots + rm.slots) → Qc v T'.heap L → own_Go p e below s kc ks Q (T'.setTop (mkF m q Ls (v.toList ++ st)))) : own_Go p e below s kc ks Q (T.setTop (mkF m pc Ls st0)) := by
  subst hq hst
  obtain ⟨cq, kq, qa, qb, qc⟩ := isOf hZ eT E
  obtain ⟨v, _, ⟨T', L', k', n'⟩, -, X', ⟨Lc, hQ, l', y', z'⟩, st'⟩ := X.virtualBack hx (y := y) (z := z) hown (mvT hZ w1) (mvT hZ w2) (notFace_of_selects (args := #[]) (mvT hZ w5)) (mvT hZ w6) (mvT hZ w7) hy (backOf (W := W) hM hZ w4 w3 hf hl) qa qc (g := mkF m pc Ls (argsL.reverse ++ .ref a :: st)) rfl hml (Steps.refl _) (argsL := argsL) (rest := st) (lenOf hpd hlen) rfl (by show 2 * 0 + _ ≤ _; omega) hd (fun _ _ => ⟨rfl, eT, hc, hs⟩)
  dsimp only [Pt.U, Pt.locs, Pt.cells, Pt.slots] at X' l' y' z' st' hQ
  subst l' y' z'
  exact own_via (fun t => st'.trans) (K v T' Lc X' hQ)
theorem own_new (X : Stand p l e R s m args below meth c T locs cells slots) (hx : p.tables.exec = Jvm.exec) {Z : State} {a0 : Array Value} {h : Heap} (hZ : Z.Warmed39 s.vm) {own : String} {i : Nat} (hown : s.vm.findClass own = some m.cls) {C : String} {n : Nat} (w : (Cond.classLink own i C).before a0 Z = true) (wi : (Cond.instantiable C n).before a0 Z = true) (wz : (Cond.initialized C).before a0 Z = true) (eT : T.heap = h) (hd : decode c.code pc = .ok (.new i, 3)) (hc : cells + 1 ≤ R.cells) (hl : slots + n ≤ R.slots) (hq : pc + 3 = q) (K : ∀ T' h' a, Stand p l e R s m args below meth c T' locs (cells + 1) (slots + n) → T'.heap = h' → a = h.size → Ext h h' → Exa Z h' a C → (∀ {O nm d : String} {ty : FieldType}, Laid Z a0 C O nm d → parseFieldDescriptor d = some ty → Fld Z h' a O nm d (defaultValue ty)) → own_Go p e below s kc ks Q (T'.setTop (mkF m q Ls (.ref a :: st)))) : own_Go p e below s kc ks Q (T.setTop (mkF m pc Ls st)) := by
  subst hq
  obtain ⟨T', h', X', e', E', A', D', -, st'⟩ := newO X hx hZ hown w wi wz eT (g := mkF m pc Ls st) rfl hd hc hl
  exact own_via (fun t => st' t) (K T' h' _ X' e' rfl E' A' D')
theorem own_getF (X : Stand p l e R s m args below meth c T locs cells slots) (hx : p.tables.exec = Jvm.exec) {Z : State} {a0 : Array Value} {h : Heap} (hZ : Z.Warmed39 s.vm) {own : String} {i : Nat} (hown : s.vm.findClass own = some m.cls) {a : Addr} {v : Value} {R0 O n d host : String} (w : (Cond.fieldLink own i R0 n d).before a0 Z = true ∨ (Cond.fieldLinkNest own i R0 n d host).before a0 Z = true) (via : Via Z R0 O n d) (eT : T.heap = h) (F : Fld Z h a O n d v) (hd : decode c.code pc = .ok (.getfield i, 3)) (hq : pc + 3 = q) (K : ∀ T', Stand p l e R s m args below meth c T' locs cells slots → T'.heap = h → own_Go p e below s kc ks Q (T'.setTop (mkF m q Ls (v :: st)))) : own_Go p e below s kc ks Q (T.setTop (mkF m pc Ls (.ref a :: st))) := by
  subst hq
  obtain ⟨T', X', e', st'⟩ := getF X hx hZ hown w via eT F (g := mkF m pc Ls (.ref a :: st)) rfl rfl hd
  exact own_via (fun t => st' t) (K T' X' e')
theorem own_putF (X : Stand p l e R s m args below meth c T locs cells slots) (hx : p.tables.exec = Jvm.exec) {Z : State} {a0 : Array Value} {h : Heap} (hZ : Z.Warmed39 s.vm) {own : String} {i : Nat} (hown : s.vm.findClass own = some m.cls) {a : Addr} {v old : Value} {R0 O n d host C : String} {kk : Nat} {ty : FieldType} (w : (Cond.fieldLink own i R0 n d).before a0 Z = true ∨ (Cond.fieldLinkNest own i R0 n d host).before a0 Z = true) (via : Via Z R0 O n d) (eT : T.heap = h) (F : Fld Z h a O n d old) (E : Exa Z h a C) (L : (Cond.lays C O n d).before a0 Z = true ∨ ((Cond.laysFinal C O n d).before a0 Z = true ∧ own = O ∧ meth.name = "<init>")) (wi : (Cond.instantiable C kk).before a0 Z = true) (hty : parseFieldDescriptor d = some ty) (hn : narrow ty v = v) (hf : fits ty v = true) (hd : decode c.code pc = .ok (.putfield i, 3)) (hq : pc + 3 = q) (K : ∀ T' h', Stand p l e R s m args below meth c T' (locs ++ [⟨a, RoadKit.slotOf Z O n d⟩]) cells slots → T'.heap = h' → Wr h h' a (RoadKit.slotOf Z O n d) v → own_Go p e below s kc ks Q (T'.setTop (mkF m q Ls st))) : own_Go p e below s kc ks Q (T.setTop (mkF m pc Ls (v :: .ref a :: st))) := by
  subst hq
  obtain ⟨T', h', X', e', W', st'⟩ := putF X hx hZ hown w via eT F E L wi hty hn hf (g := mkF m pc Ls (v :: .ref a :: st)) rfl rfl hd
  exact own_via (fun t => st' t) (K T' h' X' e' W')
theorem own_initO (X : Stand p l e R s m args below meth c T locs cells slots) (hx : p.tables.exec = Jvm.exec) {Z : State} {a0 : Array Value} {h : Heap} (hZ : Z.Warmed39 s.vm) {own : String} {i : Nat} (hown : s.vm.findClass own = some m.cls) {a : Addr} {W : Nat} (w1 : (Cond.methodLink own i Lib.objectInit).before a0 Z = true) (w2 : (Cond.instanceMethod Lib.objectInit).before a0 Z = true) (w3 : (Cond.code Lib.objectInit ⟨#[0xb1]⟩ 1 none).before a0 Z = true) (eT : T.heap = h) (hml : Ls.size = c.maxLocals) (hf : 1 ≤ R.frames) (hW : (st.map fun v => v.category).sum ≤ W) (hl : W + 12 ≤ R.locals) (hd : decode c.code pc = .ok (.invokespecial i, 3)) (hq : pc + 3 = q) (K : ∀ T', Stand p l e R s m args below meth c T' locs cells slots → T'.heap = h → own_Go p e below s kc ks Q (T'.setTop (mkF m q Ls st))) : own_Go p e below s kc ks Q (T.setTop (mkF m pc Ls (.ref a :: st))) := by
  subst hq
  obtain ⟨T', X', e', st'⟩ := initO X hx hZ hown w1 w2 w3 eT (g := mkF m pc Ls (.ref a :: st)) rfl hml rfl hd hf (W := W) (by show 2 * 0 + _ ≤ _; omega) hl
  exact own_via (fun t => st' t) (K T' X' e')
theorem own_getS (X : Stand p l e R s m args below meth c T locs cells slots) (hx : p.tables.exec = Jvm.exec) {Z : State} {a0 : Array Value} {h : Heap} (hZ : Z.Warmed39 s.vm) {own : String} {i : Nat} (hown : s.vm.findClass own = some m.cls) {v : Value} {R0 O n d : String} (w : (Cond.fieldLink own i R0 n d).before a0 Z = true) (via : Via Z R0 O n d) (eT : T.heap = h) (F : Sta Z h O n d v) (hd : decode c.code pc = .ok (.getstatic i, 3)) (hq : pc + 3 = q) (K : ∀ T', Stand p l e R s m args below meth c T' locs cells slots → T'.heap = h → own_Go p e below s kc ks Q (T'.setTop (mkF m q Ls (v :: st)))) : own_Go p e below s kc ks Q (T.setTop (mkF m pc Ls st)) := by
  subst hq
  obtain ⟨T', X', e', st'⟩ := getS X hx hZ (host := "") hown w via eT F (g := mkF m pc Ls st) rfl hd
  exact own_via (fun t => st' t) (K T' X' e')
def own_V (h : Heap) (v : Option Value) (h' : Heap) (L : List Loc) : Prop := v = none ∧ h' = h ∧ L = []
def own_Like (X : Stand p l e R s m args below meth c T locs cells slots) (T' : State) : Prop := Stand p l e R s m args below meth c T' locs cells slots ∧ T'.heap = T.heap
def own_A (Z : State) (h : Heap) (a : Addr) (ty : FieldType) (vs : List Value) : Prop := ∃ c : Cell, Arr Z h a c ty ∧ c.slots.toList = vs
theorem own_A.lt {Z : State} {h : Heap} {a : Addr} {ty : FieldType} {vs : List Value} (F : own_A Z h a ty vs) : a < h.size := by obtain ⟨c, A, -⟩ := F; exact A.lt
theorem own_A.ext {Z : State} {h h' : Heap} {a : Addr} {ty : FieldType} {vs : List Value} (F : own_A Z h a ty vs) (E : Ext h h') : own_A Z h' a ty vs := by obtain ⟨c, A, r⟩ := F; exact ⟨c, A.ext E, r⟩
theorem own_A.other {Z : State} {h h' : Heap} {a b : Addr} {ty : FieldType} {vs : List Value} {sl : Nat} {v : Value} (F : own_A Z h b ty vs) (W : Wr h h' a sl v) (q : b ≠ a) : own_A Z h' b ty vs := by obtain ⟨c, A, r⟩ := F; exact ⟨c, A.other W q, r⟩
theorem own_A.keep {Z : State} {h h' : Heap} {a : Addr} {ty : FieldType} {vs : List Value} {ws : List Addr} (F : own_A Z h a ty vs) (K : Keep h h' ws) (q : a ∉ ws) : own_A Z h' a ty vs := by obtain ⟨c, A, r⟩ := F; exact ⟨c, ⟨K.2.1 a c A.1 q, A.2⟩, r⟩
theorem own_A.set {Z : State} {h h' : Heap} {a : Addr} {ty : FieldType} {vs : List Value} {i : Nat} {v : Value} (F : own_A Z h a ty vs) (W : Wr h h' a i v) : own_A Z h' a ty (vs.set i v) := by
  obtain ⟨c, A, rfl⟩ := F; exact ⟨_, A.same W, by simp [Cell.setSlot]⟩
theorem own_in {c : Cell} {j : Int32} {i : Nat} (hn : ¬ j < 0) (hj : j.toNatClampNeg = i) (hi : i < c.slots.toList.length) : ¬ (j < 0 ∨ c.slots.size ≤ j.toNatClampNeg) := by
  rintro (h | h)
  · exact hn h
  · rw [hj] at h; rw [Array.length_toList] at hi; exact absurd hi (Nat.not_lt.mpr h)
theorem own_iaload (X : Stand p l e R s m args below meth c T locs cells slots) (hx : p.tables.exec = Jvm.exec) {Z : State} {h : Heap} (hZ : Z.Warmed39 s.vm) {a : Addr} {j : Int32} {i : Nat} {vs : List Value} (eT : T.heap = h) {v : Value} (F : own_A Z h a .int vs) (hn : ¬ j < 0) (hj : j.toNatClampNeg = i) (hv : vs[i]? = some v) (hd : decode c.code pc = .ok (.iaload, 1)) (hq : pc + 1 = q) (K : own_Go p e below s kc ks Q (T.setTop (mkF m q Ls (v :: st)))) : own_Go p e below s kc ks Q (T.setTop (mkF m pc Ls (.int j :: .ref a :: st))) := by
  subst hq
  obtain ⟨cl, A, rfl⟩ := F
  have hv' : cl.slots[j.toNatClampNeg]? = some v := by rw [hj, ← Array.getElem?_toList]; exact hv
  have hin := own_in (c := cl) hn hj (List.getElem?_eq_some_iff.mp hv).1
  exact own_via (fun t => X.iaload hx (by rw [eT]; exact A.1) (State.isArrayOf_alike hZ.alike A.2.1) A.2.2 hin hv' (g := mkF m pc Ls (.int j :: .ref a :: st)) rfl rfl hd t) K
theorem own_laload (X : Stand p l e R s m args below meth c T locs cells slots) (hx : p.tables.exec = Jvm.exec) {Z : State} {h : Heap} (hZ : Z.Warmed39 s.vm) {a : Addr} {j : Int32} {i : Nat} {vs : List Value} (eT : T.heap = h) {v : Value} (F : own_A Z h a .long vs) (hn : ¬ j < 0) (hj : j.toNatClampNeg = i) (hv : vs[i]? = some v) (hd : decode c.code pc = .ok (.laload, 1)) (hq : pc + 1 = q) (K : own_Go p e below s kc ks Q (T.setTop (mkF m q Ls (v :: st)))) : own_Go p e below s kc ks Q (T.setTop (mkF m pc Ls (.int j :: .ref a :: st))) := by
  subst hq
  obtain ⟨cl, A, rfl⟩ := F
  have hv' : cl.slots[j.toNatClampNeg]? = some v := by rw [hj, ← Array.getElem?_toList]; exact hv
  have hin := own_in (c := cl) hn hj (List.getElem?_eq_some_iff.mp hv).1
  exact own_via (fun t => X.laload hx (by rw [eT]; exact A.1) (State.isArrayOf_alike hZ.alike A.2.1) A.2.2 hin hv' (g := mkF m pc Ls (.int j :: .ref a :: st)) rfl rfl hd t) K
theorem own_caload (X : Stand p l e R s m args below meth c T locs cells slots) (hx : p.tables.exec = Jvm.exec) {Z : State} {h : Heap} (hZ : Z.Warmed39 s.vm) {a : Addr} {j : Int32} {i : Nat} {vs : List Value} (eT : T.heap = h) {v : Value} (F : own_A Z h a .char vs) (hn : ¬ j < 0) (hj : j.toNatClampNeg = i) (hv : vs[i]? = some v) (hd : decode c.code pc = .ok (.caload, 1)) (hq : pc + 1 = q) (K : own_Go p e below s kc ks Q (T.setTop (mkF m q Ls (v :: st)))) : own_Go p e below s kc ks Q (T.setTop (mkF m pc Ls (.int j :: .ref a :: st))) := by
  subst hq
  obtain ⟨cl, A, rfl⟩ := F
  have hv' : cl.slots[j.toNatClampNeg]? = some v := by rw [hj, ← Array.getElem?_toList]; exact hv
  have hin := own_in (c := cl) hn hj (List.getElem?_eq_some_iff.mp hv).1
  exact own_via (fun t => X.caload hx (by rw [eT]; exact A.1) (State.isArrayOf_alike hZ.alike A.2.1) A.2.2 hin hv' (g := mkF m pc Ls (.int j :: .ref a :: st)) rfl rfl hd t) K
theorem own_baload (X : Stand p l e R s m args below meth c T locs cells slots) (hx : p.tables.exec = Jvm.exec) {Z : State} {h : Heap} (hZ : Z.Warmed39 s.vm) {a : Addr} {j : Int32} {i : Nat} {vs : List Value} (eT : T.heap = h) {v : Value} (F : own_A Z h a .byte vs) (hn : ¬ j < 0) (hj : j.toNatClampNeg = i) (hv : vs[i]? = some v) (hd : decode c.code pc = .ok (.baload, 1)) (hq : pc + 1 = q) (K : own_Go p e below s kc ks Q (T.setTop (mkF m q Ls (v :: st)))) : own_Go p e below s kc ks Q (T.setTop (mkF m pc Ls (.int j :: .ref a :: st))) := by
  subst hq
  obtain ⟨cl, A, rfl⟩ := F
  have hv' : cl.slots[j.toNatClampNeg]? = some v := by rw [hj, ← Array.getElem?_toList]; exact hv
  have hin := own_in (c := cl) hn hj (List.getElem?_eq_some_iff.mp hv).1
  exact own_via (fun t => X.baloadBytes hx (by rw [eT]; exact A.1) (State.isArrayOf_alike hZ.alike A.2.1) A.2.2 hin hv' (g := mkF m pc Ls (.int j :: .ref a :: st)) rfl rfl hd t) K
theorem own_zaload (X : Stand p l e R s m args below meth c T locs cells slots) (hx : p.tables.exec = Jvm.exec) {Z : State} {h : Heap} (hZ : Z.Warmed39 s.vm) {a : Addr} {j : Int32} {i : Nat} {vs : List Value} (eT : T.heap = h) {v : Value} (F : own_A Z h a .boolean vs) (hn : ¬ j < 0) (hj : j.toNatClampNeg = i) (hv : vs[i]? = some v) (hd : decode c.code pc = .ok (.baload, 1)) (hq : pc + 1 = q) (K : own_Go p e below s kc ks Q (T.setTop (mkF m q Ls (v :: st)))) : own_Go p e below s kc ks Q (T.setTop (mkF m pc Ls (.int j :: .ref a :: st))) := by
  subst hq
  obtain ⟨cl, A, rfl⟩ := F
  have hv' : cl.slots[j.toNatClampNeg]? = some v := by rw [hj, ← Array.getElem?_toList]; exact hv
  have hin := own_in (c := cl) hn hj (List.getElem?_eq_some_iff.mp hv).1
  exact own_via (fun t => X.baloadBooleans hx (by rw [eT]; exact A.1) (State.isArrayOf_alike hZ.alike A.2.1) A.2.2 hin hv' (g := mkF m pc Ls (.int j :: .ref a :: st)) rfl rfl hd t) K
theorem own_alen (X : Stand p l e R s m args below meth c T locs cells slots) (hx : p.tables.exec = Jvm.exec) {Z : State} {h : Heap} (hZ : Z.Warmed39 s.vm) {a : Addr} {vs : List Value} {ty : FieldType} {n : Int32} (eT : T.heap = h) (F : own_A Z h a ty vs) (hn : vs.length.toInt32 = n) (hd : decode c.code pc = .ok (.arraylength, 1)) (hq : pc + 1 = q) (K : own_Go p e below s kc ks Q (T.setTop (mkF m q Ls (.int n :: st)))) : own_Go p e below s kc ks Q (T.setTop (mkF m pc Ls (.ref a :: st))) := by
  subst hq
  obtain ⟨cl, A, rfl⟩ := F
  rw [Array.length_toList] at hn
  subst hn
  exact own_via (fun t => X.arraylength hx (by rw [eT]; exact A.1) (State.isArrayOf_alike hZ.alike A.2.1) (g := mkF m pc Ls (.ref a :: st)) rfl rfl hd t) K
theorem own_iastore (X : Stand p l e R s m args below meth c T locs cells slots) (hx : p.tables.exec = Jvm.exec) {Z : State} {h : Heap} (hZ : Z.Warmed39 s.vm) {a : Addr} {j : Int32} {i : Nat} {vs : List Value} (eT : T.heap = h) {x : Int32} (F : own_A Z h a .int vs) (hn : ¬ j < 0) (hj : j.toNatClampNeg = i) (hi : i < vs.length) (hd : decode c.code pc = .ok (.iastore, 1)) (hq : pc + 1 = q) (K : ∀ T' h', Stand p l e R s m args below meth c T' (locs ++ [⟨a, i⟩]) cells slots → T'.heap = h' → Wr h h' a i (.int x) → own_A Z h' a .int (vs.set i (.int x)) → own_Go p e below s kc ks Q (T'.setTop (mkF m q Ls st))) : own_Go p e below s kc ks Q (T.setTop (mkF m pc Ls (.int x :: .int j :: .ref a :: st))) := by
  subst hq hj
  have F' := F
  obtain ⟨cl, A, rfl⟩ := F
  have hin := own_in (c := cl) hn rfl hi
  obtain ⟨T', h', X', e', W', st'⟩ := stI X hx hZ eT A hin (g := mkF m pc Ls (.int x :: .int j :: .ref a :: st)) rfl rfl hd
  exact own_via (fun t => st' t) (K T' h' X' e' W' (F'.set W'))
theorem own_lastore (X : Stand p l e R s m args below meth c T locs cells slots) (hx : p.tables.exec = Jvm.exec) {Z : State} {h : Heap} (hZ : Z.Warmed39 s.vm) {a : Addr} {j : Int32} {i : Nat} {vs : List Value} (eT : T.heap = h) {x : Int64} (F : own_A Z h a .long vs) (hn : ¬ j < 0) (hj : j.toNatClampNeg = i) (hi : i < vs.length) (hd : decode c.code pc = .ok (.lastore, 1)) (hq : pc + 1 = q) (K : ∀ T' h', Stand p l e R s m args below meth c T' (locs ++ [⟨a, i⟩]) cells slots → T'.heap = h' → Wr h h' a i (.long x) → own_A Z h' a .long (vs.set i (.long x)) → own_Go p e below s kc ks Q (T'.setTop (mkF m q Ls st))) : own_Go p e below s kc ks Q (T.setTop (mkF m pc Ls (.long x :: .int j :: .ref a :: st))) := by
  subst hq hj
  have F' := F
  obtain ⟨cl, A, rfl⟩ := F
  have hin := own_in (c := cl) hn rfl hi
  obtain ⟨T', h', X', e', W', st'⟩ := stJ X hx hZ eT A hin (g := mkF m pc Ls (.long x :: .int j :: .ref a :: st)) rfl rfl hd
  exact own_via (fun t => st' t) (K T' h' X' e' W' (F'.set W'))
theorem own_castore (X : Stand p l e R s m args below meth c T locs cells slots) (hx : p.tables.exec = Jvm.exec) {Z : State} {h : Heap} (hZ : Z.Warmed39 s.vm) {a : Addr} {j : Int32} {i : Nat} {vs : List Value} (eT : T.heap = h) {x : Int32} (F : own_A Z h a .char vs) (hn : ¬ j < 0) (hj : j.toNatClampNeg = i) (hi : i < vs.length) (hd : decode c.code pc = .ok (.castore, 1)) (hq : pc + 1 = q) (K : ∀ T' h', Stand p l e R s m args below meth c T' (locs ++ [⟨a, i⟩]) cells slots → T'.heap = h' → Wr h h' a i (.int (nar .char x)) → own_A Z h' a .char (vs.set i (.int (nar .char x))) → own_Go p e below s kc ks Q (T'.setTop (mkF m q Ls st))) : own_Go p e below s kc ks Q (T.setTop (mkF m pc Ls (.int x :: .int j :: .ref a :: st))) := by
  subst hq hj
  have F' := F
  obtain ⟨cl, A, rfl⟩ := F
  have hin := own_in (c := cl) hn rfl hi
  obtain ⟨T', h', X', e', W', st'⟩ := stC X hx hZ eT A hin (g := mkF m pc Ls (.int x :: .int j :: .ref a :: st)) rfl rfl hd
  exact own_via (fun t => st' t) (K T' h' X' e' W' (F'.set W'))
theorem own_bastore (X : Stand p l e R s m args below meth c T locs cells slots) (hx : p.tables.exec = Jvm.exec) {Z : State} {h : Heap} (hZ : Z.Warmed39 s.vm) {a : Addr} {j : Int32} {i : Nat} {vs : List Value} (eT : T.heap = h) {x : Int32} (F : own_A Z h a .byte vs) (hn : ¬ j < 0) (hj : j.toNatClampNeg = i) (hi : i < vs.length) (hd : decode c.code pc = .ok (.bastore, 1)) (hq : pc + 1 = q) (K : ∀ T' h', Stand p l e R s m args below meth c T' (locs ++ [⟨a, i⟩]) cells slots → T'.heap = h' → Wr h h' a i (.int x.toInt8.toInt32) → own_A Z h' a .byte (vs.set i (.int x.toInt8.toInt32)) → own_Go p e below s kc ks Q (T'.setTop (mkF m q Ls st))) : own_Go p e below s kc ks Q (T.setTop (mkF m pc Ls (.int x :: .int j :: .ref a :: st))) := by
  subst hq hj
  have F' := F
  obtain ⟨cl, A, rfl⟩ := F
  have hin := own_in (c := cl) hn rfl hi
  obtain ⟨T', h', X', e', W', st'⟩ := stB X hx hZ eT A hin (g := mkF m pc Ls (.int x :: .int j :: .ref a :: st)) rfl rfl hd
  exact own_via (fun t => st' t) (K T' h' X' e' W' (F'.set W'))
theorem own_zastore (X : Stand p l e R s m args below meth c T locs cells slots) (hx : p.tables.exec = Jvm.exec) {Z : State} {h : Heap} (hZ : Z.Warmed39 s.vm) {a : Addr} {j : Int32} {i : Nat} {vs : List Value} (eT : T.heap = h) {x : Int32} (F : own_A Z h a .boolean vs) (hn : ¬ j < 0) (hj : j.toNatClampNeg = i) (hi : i < vs.length) (hd : decode c.code pc = .ok (.bastore, 1)) (hq : pc + 1 = q) (K : ∀ T' h', Stand p l e R s m args below meth c T' (locs ++ [⟨a, i⟩]) cells slots → T'.heap = h' → Wr h h' a i (.int (nar .boolean x)) → own_A Z h' a .boolean (vs.set i (.int (nar .boolean x))) → own_Go p e below s kc ks Q (T'.setTop (mkF m q Ls st))) : own_Go p e below s kc ks Q (T.setTop (mkF m pc Ls (.int x :: .int j :: .ref a :: st))) := by
  subst hq hj
  have F' := F
  obtain ⟨cl, A, rfl⟩ := F
  have hin := own_in (c := cl) hn rfl hi
  obtain ⟨T', h', X', e', W', st'⟩ := stZ X hx hZ eT A hin (g := mkF m pc Ls (.int x :: .int j :: .ref a :: st)) rfl rfl hd
  exact own_via (fun t => st' t) (K T' h' X' e' W' (F'.set W'))
theorem own_newA (X : Stand p l e R s m args below meth c T locs cells slots) (hx : p.tables.exec = Jvm.exec) {Z : State} {a0 : Array Value} {h : Heap} (hZ : Z.Warmed39 s.vm) {aty : ArrayType} {ty : FieldType} {n : Int32} {k cap : Nat} (hty : newarray.typeOf aty = ty) (w : (Cond.arrayClass ty).before a0 Z = true) (eT : T.heap = h) (hn : ¬ n < 0) (hk : n.toNatClampNeg = k) (hcap : k ≤ cap) (hb8 : cap * 8 ≤ 536870912) (hc : cells + 1 ≤ R.cells) (hl : slots + cap ≤ R.slots) (hd : decode c.code pc = .ok (.newarray aty, 2)) (hq : pc + 2 = q) (K : ∀ T' h' a, Stand p l e R s m args below meth c T' locs (cells + 1) (slots + cap) → T'.heap = h' → a = h.size → Ext h h' → own_A Z h' a ty (List.replicate k (defaultValue ty)) → own_Go p e below s kc ks Q (T'.setTop (mkF m q Ls (.ref a :: st)))) : own_Go p e below s kc ks Q (T.setTop (mkF m pc Ls (.int n :: st))) := by
  subst hq hty hk
  obtain ⟨T', h', cA, X', e', E', A', st'⟩ := newP X hx hZ w eT (g := mkF m pc Ls (.int n :: st)) rfl hd rfl hn hcap hb8 hc hl
  exact own_via (fun t => st' t) (K T' h' _ X' e' rfl E' ⟨_, A', by simp [newA]⟩)
theorem own_lswHit (X : Stand p l e R s m args below meth c T locs cells slots) (hx : p.tables.exec = Jvm.exec) {k : Int32} {dflt : Int} {prs : Array (Int × Int)} {len : Nat} {v : Int32} {b off : Int} (hk : k = v) (hd : decode c.code pc = .ok (.lookupswitch dflt prs, len)) (hs : (prs.toList.zip (prs.toList.drop 1)).all (fun (a, next) => a.1 < next.1) = true) (hf : prs.find? (·.1 == v.toInt) = some (b, off)) (ho : 0 ≤ (pc : Int) + off) (hp : ((pc : Int) + off).toNat = q) (K : own_Go p e below s kc ks Q (T.setTop (mkF m q Ls st))) : own_Go p e below s kc ks Q (T.setTop (mkF m pc Ls (.int k :: st))) := by
  subst hk hp; exact own_via (fun t => X.lookupswitchHit hx (g := mkF m pc Ls (.int k :: st)) rfl rfl hd hs hf ho t) K
theorem own_lswMiss (X : Stand p l e R s m args below meth c T locs cells slots) (hx : p.tables.exec = Jvm.exec) {k : Int32} {dflt : Int} {prs : Array (Int × Int)} {len : Nat} (hm : prs.find? (·.1 == k.toInt) = none) (hd : decode c.code pc = .ok (.lookupswitch dflt prs, len)) (hs : (prs.toList.zip (prs.toList.drop 1)).all (fun (a, next) => a.1 < next.1) = true) (ho : 0 ≤ (pc : Int) + dflt) (hp : ((pc : Int) + dflt).toNat = q) (K : own_Go p e below s kc ks Q (T.setTop (mkF m q Ls st))) : own_Go p e below s kc ks Q (T.setTop (mkF m pc Ls (.int k :: st))) := by
  subst hp; exact own_via (fun t => X.lookupswitchMiss hx (g := mkF m pc Ls (.int k :: st)) rfl rfl hd hs hm ho t) K
theorem own_instY (X : Stand p l e R s m args below meth c T locs cells slots) (hx : p.tables.exec = Jvm.exec) {Z : State} {a0 : Array Value} {h : Heap} (hZ : Z.Warmed39 s.vm) {own : String} {i : Nat} (hown : s.vm.findClass own = some m.cls) {a : Addr} {K0 : String} (w : (Cond.classLink own i K0).before a0 Z = true) (eT : T.heap = h) (F : Ins Z h a K0 true) (hd : decode c.code pc = .ok (.instanceof i, 3)) (hq : pc + 3 = q) (K : ∀ T', Stand p l e R s m args below meth c T' locs cells slots → T'.heap = h → own_Go p e below s kc ks Q (T'.setTop (mkF m q Ls (.int 1 :: st)))) : own_Go p e below s kc ks Q (T.setTop (mkF m pc Ls (.ref a :: st))) := by
  subst hq
  obtain ⟨T', X', e', st'⟩ := instY X hx hZ hown w eT F (g := mkF m pc Ls (.ref a :: st)) rfl rfl hd
  exact own_via (fun t => st' t) (K T' X' e')
theorem own_instN (X : Stand p l e R s m args below meth c T locs cells slots) (hx : p.tables.exec = Jvm.exec) {Z : State} {a0 : Array Value} {h : Heap} (hZ : Z.Warmed39 s.vm) {own : String} {i : Nat} (hown : s.vm.findClass own = some m.cls) {a : Addr} {K0 C : String} (w : (Cond.classLink own i K0).before a0 Z = true) (eT : T.heap = h) (E : Exa Z h a C) (F : ∃ c t, Z.vm.findClass C = some c ∧ Z.vm.findClass K0 = some t ∧ Z.vm.assignable c t = false) (hd : decode c.code pc = .ok (.instanceof i, 3)) (hq : pc + 3 = q) (K : ∀ T', Stand p l e R s m args below meth c T' locs cells slots → T'.heap = h → own_Go p e below s kc ks Q (T'.setTop (mkF m q Ls (.int 0 :: st)))) : own_Go p e below s kc ks Q (T.setTop (mkF m pc Ls (.ref a :: st))) := by
  subst hq
  obtain ⟨T', X', e', st'⟩ := instNo X hx hZ hown w eT E F (g := mkF m pc Ls (.ref a :: st)) rfl rfl hd
  exact own_via (fun t => st' t) (K T' X' e')
theorem own_cast (X : Stand p l e R s m args below meth c T locs cells slots) (hx : p.tables.exec = Jvm.exec) {Z : State} {a0 : Array Value} {h : Heap} (hZ : Z.Warmed39 s.vm) {own : String} {i : Nat} (hown : s.vm.findClass own = some m.cls) {a : Addr} {K0 : String} (w : (Cond.classLink own i K0).before a0 Z = true) (eT : T.heap = h) (F : Ins Z h a K0 true) (hd : decode c.code pc = .ok (.checkcast i, 3)) (hq : pc + 3 = q) (K : ∀ T', Stand p l e R s m args below meth c T' locs cells slots → T'.heap = h → own_Go p e below s kc ks Q (T'.setTop (mkF m q Ls (.ref a :: st)))) : own_Go p e below s kc ks Q (T.setTop (mkF m pc Ls (.ref a :: st))) := by
  subst hq
  obtain ⟨T', X', e', st'⟩ := castY X hx hZ hown w eT F (g := mkF m pc Ls (.ref a :: st)) rfl rfl hd
  exact own_via (fun t => st' t) (K T' X' e')
theorem own_inst0 (X : Stand p l e R s m args below meth c T locs cells slots) (hx : p.tables.exec = Jvm.exec) {i : Nat} (hd : decode c.code pc = .ok (.instanceof i, 3)) (hq : pc + 3 = q) (K : own_Go p e below s kc ks Q (T.setTop (mkF m q Ls (.int 0 :: st)))) : own_Go p e below s kc ks Q (T.setTop (mkF m pc Ls (.null :: st))) := by
  subst hq; exact own_via (fun t => X.instanceofNull hx (g := mkF m pc Ls (.null :: st)) rfl (rest := st) rfl hd t) K
theorem own_staKeep {Z : State} {h h' : Heap} {ws : List Addr} {C n d : String} {v : Value} (F : Sta Z h C n d v) (K : Keep h h' ws) (q : ∀ a ∈ ws, ∀ c : Cell, h[a]? = some c → c.vm.isStatics = false) : Sta Z h' C n d v := by
  obtain ⟨cf, i, k, f, st, cell, h1, h2, h3, h4, h5, h6, h7⟩ := F
  exact ⟨cf, i, k, f, st, cell, h1, h2, h3, h4, K.2.1 st cell h5 (fun hm => by rw [q st hm cell h5] at h6; cases h6), h6, h7⟩
theorem own_exaPlain {Z : State} {h : Heap} {a : Addr} {C : String} (E : Exa Z h a C) : ∀ c : Cell, h[a]? = some c → c.vm.isStatics = false := fun c hc => by
  obtain ⟨cell, k, h1, -, -, h4, -⟩ := E
  cases h1.symm.trans hc; exact h4
theorem own_A.plain {Z : State} {h : Heap} {a : Addr} {ty : FieldType} {vs : List Value} (F : own_A Z h a ty vs) : ∀ c : Cell, h[a]? = some c → c.vm.isStatics = false := fun c hc => by
  obtain ⟨cl, A, -⟩ := F
  cases A.1.symm.trans hc; exact A.plain
theorem own_callSP (X : Stand p l e R s m args below meth c T locs cells slots) (hx : p.tables.exec = Jvm.exec) {Z : State} {a0 : Array Value} {h : Heap} {own : String} {index : Nat} {y : MethodName} {bytes : ByteArray} {maxL : Nat} {ret : Option FieldType} {W : Nat} {argsL : List Value} {fr lo : Nat} {w : Value} {ps : List FieldType} {r : Option FieldType} {st0 : List Value} (hZ : Z.Warmed39 s.vm) (hown : s.vm.findClass own = some m.cls) (w1 : (Cond.methodLink own index y).before a0 Z = true) (w2 : (Cond.static y).before a0 Z = true) (w3 : (Cond.initialized y.cls).before a0 Z = true) (w4 : (Cond.code y bytes maxL ret).before a0 Z = true) (hy : y.cls ≠ "java/lang/invoke/MethodHandle" ∧ y.cls ≠ "java/lang/invoke/VarHandle") (hM : MetFree l y (head1 [Cond.code y bytes maxL ret] ({ frames := fr, cells := 0, slots := 0, locals := lo } : Room)) (fun aa U => aa = argsL.toArray ∧ Z.Warmed39 U.vm ∧ U.heap = h) (fun _ _ _ _ _ => True) (fun _ U o U' => ∃ v L, o = .returned v ∧ own_P w h v U'.heap L ∧ FrameEnd U o U' L 0 0)) (hpd : parseMethodDescriptor y.desc = some ⟨ps, r⟩) (hlen : argsL.length = ps.length) (eT : T.heap = h) (hml : Ls.size = c.maxLocals) (hst : st0 = argsL.reverse ++ st) (hW : (st.map fun v => v.category).sum ≤ W) (hf : fr + 1 ≤ R.frames) (hl : W + (maxL + 11) + lo ≤ R.locals) (hc : cells ≤ R.cells) (hs : slots ≤ R.slots) (hd : decode c.code pc = .ok (.invokestatic index, 3)) (hq : pc + 3 = q) (K : ∀ T', Stand p l e R s m args below meth c T' locs cells slots → T'.heap = h → own_Go p e below s kc ks Q (T'.setTop (mkF m q Ls (w :: st)))) : own_Go p e below s kc ks Q (T.setTop (mkF m pc Ls st0)) := by
  refine own_callS X hx hZ hown w1 w2 w3 w4 hy hM hpd hlen eT hml hst hW hf hl hc hs hd hq fun v T' L X' hQ => ?_
  obtain ⟨rfl, eh, rfl⟩ := hQ
  rw [List.append_nil] at X'
  exact K T' X' eh
theorem own_callVP (X : Stand p l e R s m args below meth c T locs cells slots) (hx : p.tables.exec = Jvm.exec) {a : Addr} {C : String} {z : MethodName} {Z : State} {a0 : Array Value} {h : Heap} {own : String} {index : Nat} {y : MethodName} {bytes : ByteArray} {maxL : Nat} {ret : Option FieldType} {W : Nat} {argsL : List Value} {fr lo : Nat} {w : Value} {ps : List FieldType} {r : Option FieldType} {st0 : List Value} (hZ : Z.Warmed39 s.vm) (hown : s.vm.findClass own = some m.cls) (w1 : (Cond.methodLink own index y).before a0 Z = true) (w2 : (Cond.declares y).before a0 Z = true) (w5 : (Cond.selects y.cls y y).before a0 Z = true) (w6 : (Cond.selects C y z).before a0 Z = true) (w7 : (Cond.instanceMethod z).before a0 Z = true) (w3 : (Cond.initialized z.cls).before a0 Z = true) (w4 : (Cond.code z bytes maxL ret).before a0 Z = true) (E : Exa Z h a C) (hy : y.cls ≠ "java/lang/invoke/MethodHandle" ∧ y.cls ≠ "java/lang/invoke/VarHandle") (hM : MetFree l z (head1 [Cond.code z bytes maxL ret] ({ frames := fr, cells := 0, slots := 0, locals := lo } : Room)) (fun aa U => aa = (.ref a :: argsL).toArray ∧ Z.Warmed39 U.vm ∧ U.heap = h) (fun _ _ _ _ _ => True) (fun _ U o U' => ∃ v L, o = .returned v ∧ own_P w h v U'.heap L ∧ FrameEnd U o U' L 0 0)) (hpd : parseMethodDescriptor y.desc = some ⟨ps, r⟩) (hlen : argsL.length = ps.length) (eT : T.heap = h) (hml : Ls.size = c.maxLocals) (hst : st0 = argsL.reverse ++ .ref a :: st) (hW : (st.map fun v => v.category).sum ≤ W) (hf : fr + 1 ≤ R.frames) (hl : W + (maxL + 11) + lo ≤ R.locals) (hc : cells ≤ R.cells) (hs : slots ≤ R.slots) (hd : decode c.code pc = .ok (.invokevirtual index, 3)) (hq : pc + 3 = q) (K : ∀ T', Stand p l e R s m args below meth c T' locs cells slots → T'.heap = h → own_Go p e below s kc ks Q (T'.setTop (mkF m q Ls (w :: st)))) : own_Go p e below s kc ks Q (T.setTop (mkF m pc Ls st0)) := by
  refine own_callV X hx hZ hown w1 w2 w5 w6 w7 w3 w4 E hy hM hpd hlen eT hml hst hW hf hl hc hs hd hq fun v T' L X' hQ => ?_
  obtain ⟨rfl, eh, rfl⟩ := hQ
  rw [List.append_nil] at X'
  exact K T' X' eh
theorem own_callCV (X : Stand p l e R s m args below meth c T locs cells slots) (hx : p.tables.exec = Jvm.exec) {a : Addr} {Z : State} {a0 : Array Value} {h : Heap} {own : String} {index : Nat} {y : MethodName} {bytes : ByteArray} {maxL : Nat} {W : Nat} {argsL : List Value} {fr lo : Nat} {ps : List FieldType} {r : Option FieldType} {st0 : List Value} (hZ : Z.Warmed39 s.vm) (hown : s.vm.findClass own = some m.cls) (hy1 : y.name = "<init>") (w1 : (Cond.methodLink own index y).before a0 Z = true) (w2 : (Cond.instanceMethod y).before a0 Z = true) (w3 : (Cond.initialized y.cls).before a0 Z = true) (w4 : (Cond.code y bytes maxL none).before a0 Z = true) (hy : y.cls ≠ "java/lang/invoke/MethodHandle" ∧ y.cls ≠ "java/lang/invoke/VarHandle") (hM : MetFree l y (head1 [Cond.code y bytes maxL none] ({ frames := fr, cells := 0, slots := 0, locals := lo } : Room)) (fun aa U => aa = (.ref a :: argsL).toArray ∧ Z.Warmed39 U.vm ∧ U.heap = h) (fun _ _ _ _ _ => True) (fun _ U o U' => ∃ v L, o = .returned v ∧ own_V h v U'.heap L ∧ FrameEnd U o U' L 0 0)) (hpd : parseMethodDescriptor y.desc = some ⟨ps, r⟩) (hlen : argsL.length = ps.length) (eT : T.heap = h) (hml : Ls.size = c.maxLocals) (hst : st0 = argsL.reverse ++ .ref a :: st) (hW : (st.map fun v => v.category).sum ≤ W) (hf : fr + 1 ≤ R.frames) (hl : W + (maxL + 11) + lo ≤ R.locals) (hc : cells ≤ R.cells) (hs : slots ≤ R.slots) (hd : decode c.code pc = .ok (.invokespecial index, 3)) (hq : pc + 3 = q) (K : ∀ T', Stand p l e R s m args below meth c T' locs cells slots → T'.heap = h → own_Go p e below s kc ks Q (T'.setTop (mkF m q Ls st))) : own_Go p e below s kc ks Q (T.setTop (mkF m pc Ls st0)) := by
  refine own_callC X hx hZ hown hy1 w1 w2 w3 w4 hy hM hpd hlen eT hml hst hW hf hl hc hs hd hq fun v T' L X' hQ => ?_
  obtain ⟨rfl, eh, rfl⟩ := hQ
  rw [List.append_nil] at X'
  exact K T' X' eh
theorem own_callSV (X : Stand p l e R s m args below meth c T locs cells slots) (hx : p.tables.exec = Jvm.exec) {Z : State} {a0 : Array Value} {h : Heap} {own : String} {index : Nat} {y : MethodName} {bytes : ByteArray} {maxL : Nat} {ret : Option FieldType} {W : Nat} {argsL : List Value} {fr lo : Nat} {ps : List FieldType} {r : Option FieldType} {st0 : List Value} (hZ : Z.Warmed39 s.vm) (hown : s.vm.findClass own = some m.cls) (w1 : (Cond.methodLink own index y).before a0 Z = true) (w2 : (Cond.static y).before a0 Z = true) (w3 : (Cond.initialized y.cls).before a0 Z = true) (w4 : (Cond.code y bytes maxL ret).before a0 Z = true) (hy : y.cls ≠ "java/lang/invoke/MethodHandle" ∧ y.cls ≠ "java/lang/invoke/VarHandle") (hM : MetFree l y (head1 [Cond.code y bytes maxL ret] ({ frames := fr, cells := 0, slots := 0, locals := lo } : Room)) (fun aa U => aa = argsL.toArray ∧ Z.Warmed39 U.vm ∧ U.heap = h) (fun _ _ _ _ _ => True) (fun _ U o U' => ∃ v L, o = .returned v ∧ own_V h v U'.heap L ∧ FrameEnd U o U' L 0 0)) (hpd : parseMethodDescriptor y.desc = some ⟨ps, r⟩) (hlen : argsL.length = ps.length) (eT : T.heap = h) (hml : Ls.size = c.maxLocals) (hst : st0 = argsL.reverse ++ st) (hW : (st.map fun v => v.category).sum ≤ W) (hf : fr + 1 ≤ R.frames) (hl : W + (maxL + 11) + lo ≤ R.locals) (hc : cells ≤ R.cells) (hs : slots ≤ R.slots) (hd : decode c.code pc = .ok (.invokestatic index, 3)) (hq : pc + 3 = q) (K : ∀ T', Stand p l e R s m args below meth c T' locs cells slots → T'.heap = h → own_Go p e below s kc ks Q (T'.setTop (mkF m q Ls st))) : own_Go p e below s kc ks Q (T.setTop (mkF m pc Ls st0)) := by
  refine own_callS X hx hZ hown w1 w2 w3 w4 hy hM hpd hlen eT hml hst hW hf hl hc hs hd hq fun v T' L X' hQ => ?_
  obtain ⟨rfl, eh, rfl⟩ := hQ
  rw [List.append_nil] at X'
  exact K T' X' eh
theorem own_callVV (X : Stand p l e R s m args below meth c T locs cells slots) (hx : p.tables.exec = Jvm.exec) {a : Addr} {C : String} {z : MethodName} {Z : State} {a0 : Array Value} {h : Heap} {own : String} {index : Nat} {y : MethodName} {bytes : ByteArray} {maxL : Nat} {ret : Option FieldType} {W : Nat} {argsL : List Value} {fr lo : Nat} {ps : List FieldType} {r : Option FieldType} {st0 : List Value} (hZ : Z.Warmed39 s.vm) (hown : s.vm.findClass own = some m.cls) (w1 : (Cond.methodLink own index y).before a0 Z = true) (w2 : (Cond.declares y).before a0 Z = true) (w5 : (Cond.selects y.cls y y).before a0 Z = true) (w6 : (Cond.selects C y z).before a0 Z = true) (w7 : (Cond.instanceMethod z).before a0 Z = true) (w3 : (Cond.initialized z.cls).before a0 Z = true) (w4 : (Cond.code z bytes maxL ret).before a0 Z = true) (E : Exa Z h a C) (hy : y.cls ≠ "java/lang/invoke/MethodHandle" ∧ y.cls ≠ "java/lang/invoke/VarHandle") (hM : MetFree l z (head1 [Cond.code z bytes maxL ret] ({ frames := fr, cells := 0, slots := 0, locals := lo } : Room)) (fun aa U => aa = (.ref a :: argsL).toArray ∧ Z.Warmed39 U.vm ∧ U.heap = h) (fun _ _ _ _ _ => True) (fun _ U o U' => ∃ v L, o = .returned v ∧ own_V h v U'.heap L ∧ FrameEnd U o U' L 0 0)) (hpd : parseMethodDescriptor y.desc = some ⟨ps, r⟩) (hlen : argsL.length = ps.length) (eT : T.heap = h) (hml : Ls.size = c.maxLocals) (hst : st0 = argsL.reverse ++ .ref a :: st) (hW : (st.map fun v => v.category).sum ≤ W) (hf : fr + 1 ≤ R.frames) (hl : W + (maxL + 11) + lo ≤ R.locals) (hc : cells ≤ R.cells) (hs : slots ≤ R.slots) (hd : decode c.code pc = .ok (.invokevirtual index, 3)) (hq : pc + 3 = q) (K : ∀ T', Stand p l e R s m args below meth c T' locs cells slots → T'.heap = h → own_Go p e below s kc ks Q (T'.setTop (mkF m q Ls st))) : own_Go p e below s kc ks Q (T.setTop (mkF m pc Ls st0)) := by
  refine own_callV X hx hZ hown w1 w2 w5 w6 w7 w3 w4 E hy hM hpd hlen eT hml hst hW hf hl hc hs hd hq fun v T' L X' hQ => ?_
  obtain ⟨rfl, eh, rfl⟩ := hQ
  rw [List.append_nil] at X'
  exact K T' X' eh
end OwnKit
def own_sel (t0 t1 t2 : Int64) (l : Int32) : Int64 := if l = 0 then t0 else if l = 1 then t1 else t2
theorem own_selN {l : Int32} (h : l = 0 ∨ l = 1 ∨ l = 2) : ¬ l < 0 := by
  rcases h with rfl | rfl | rfl <;> decide
theorem own_selV {t0 t1 t2 : Int64} {l : Int32} (h : l = 0 ∨ l = 1 ∨ l = 2) : ([.long t0, .long t1, .long t2] : List Value)[l.toNatClampNeg]? = some (.long (own_sel t0 t1 t2 l)) := by
  rcases h with rfl | rfl | rfl <;> rfl
theorem own_m3 (y : Int32) : (y &&& 3) % 3 = 0 ∨ (y &&& 3) % 3 = 1 ∨ (y &&& 3) % 3 = 2 := by
  have h1 := c_mask y 3 2 (by decide) (by decide)
  have h2 := (c_irem (y &&& 3) 3 3 (by decide)).1 (by rw [h1]; omega)
  simp only [← Int32.toInt_inj, h2, Int32.reduceToInt]; omega
theorem own_n4 (y : Int32) : 1 + (y &&& 3) = 1 ∨ 1 + (y &&& 3) = 2 ∨ 1 + (y &&& 3) = 3 ∨ 1 + (y &&& 3) = 4 := by
  have h1 := c_mask y 3 2 (by decide) (by decide)
  have h2 := c_iadd 1 (y &&& 3)
  have h3 := rng32 (1 + (y &&& 3))
  simp only [← Int32.toInt_inj, Int32.reduceToInt] at *; omega
theorem own_pn0 : plainName "com/example/keys_across_workers/keysacrossworkers/routing/PartialKeyGrouping" = true := by first | (simp [plainName, overriddenIn]; done) | decide +kernel
theorem own_ef1 (m : MethodId) (a1 : Addr) (a2 : Addr) : entryFrame m #[.ref a1, .ref a2] 4 = mkF m 0 #[.val (.ref a1), .val (.ref a2), .unset, .unset] [] := by first | (simp [entryFrame, mkF, argsToLocals, Value.category]; done) | rfl
theorem own_d1_0 : decode prog_21_method_3_code 0 = .ok (.aload_n 0, 1) := by decide +kernel
theorem own_d1_1 : decode prog_21_method_3_code 1 = .ok (.iconst 0, 1) := by decide +kernel
theorem own_d1_2 : decode prog_21_method_3_code 2 = .ok (.iaload, 1) := by decide +kernel
theorem own_d1_3 : decode prog_21_method_3_code 3 = .ok (.istore_n 2, 1) := by decide +kernel
theorem own_d1_4 : decode prog_21_method_3_code 4 = .ok (.iconst 1, 1) := by decide +kernel
theorem own_d1_5 : decode prog_21_method_3_code 5 = .ok (.istore_n 3, 1) := by decide +kernel
theorem own_d1_6 : decode prog_21_method_3_code 6 = .ok (.iload_n 3, 1) := by decide +kernel
theorem own_d1_7 : decode prog_21_method_3_code 7 = .ok (.aload_n 0, 1) := by decide +kernel
theorem own_d1_8 : decode prog_21_method_3_code 8 = .ok (.arraylength, 1) := by decide +kernel
theorem own_d1_9 : decode prog_21_method_3_code 9 = .ok (.if_icmp .ge 25, 3) := by decide +kernel
theorem own_d1_34 : decode prog_21_method_3_code 34 = .ok (.iload_n 2, 1) := by decide +kernel
theorem own_d1_35 : decode prog_21_method_3_code 35 = .ok (.ireturn, 1) := by decide +kernel
def own_f1_1 (u0 : Int32) (t0 : Int64) (t1 : Int64) (t2 : Int64) : Int32 := u0
set_option maxRecDepth 65536 in
set_option maxHeartbeats 40000000 in
theorem rm1_1 (l : Launch) (Z : State) (a0 : Array Value) (hw : ∀ d ∈ tables_1, d.before a0 Z = true) (ws : List Jvm.Cond) (a1 : Addr) (a2 : Addr) (u0 : Int32) (t0 : Int64) (t1 : Int64) (t2 : Int64) (h0 : Heap) (V0p : own_A Z h0 a1 .int [.int u0]) (V1p : own_A Z h0 a2 .long [.long t0, .long t1, .long t2]) (P_u0 : u0 = 0 ∨ u0 = 1 ∨ u0 = 2) :
    MetFree l (⟨"com/example/keys_across_workers/keysacrossworkers/routing/PartialKeyGrouping", "leastSent", "([I[J)I"⟩ : MethodName) (head1 (Jvm.Cond.code (⟨"com/example/keys_across_workers/keysacrossworkers/routing/PartialKeyGrouping", "leastSent", "([I[J)I"⟩ : MethodName) prog_21_method_3_code 4 (some .int) :: ws) ({ frames := 0, cells := 0, slots := 0, locals := 0 } : Room)) (fun a U => a = #[.ref a1, .ref a2] ∧ Z.Warmed39 U.vm ∧ U.heap = h0) (fun _ _ _ _ _ => True) (fun _ U o U' => ∃ v L, o = .returned v ∧ own_P (.int (own_f1_1 u0 t0 t1 t2)) h0 v U'.heap L ∧ FrameEnd U o U' L ({ frames := 0, cells := 0, slots := 0, locals := 0 } : Room).cells ({ frames := 0, cells := 0, slots := 0, locals := 0 } : Room).slots) := by
  refine MetFree.of_bodySF (plainFor_of_name own_pn0) hisR ?_
  intro p e s m args below meth c s₁ Bd hml0 hP hK
  obtain ⟨rfl, hZ, hh⟩ := hP
  have hx := Bd.exec
  have hby := Bd.bytes
  have hml : c.maxLocals = 4 := hml0
  have hown : s.vm.findClass "com/example/keys_across_workers/keysacrossworkers/routing/PartialKeyGrouping" = some m.cls := findClass_of_methodNamed Bd.named
  have hnm := (name_of_methodNamed Bd.named Bd.method).1
  have hlk : meth.locks = false := BodyLoose.notSynchronized Bd
  have X0 : Stand p l e ({ frames := 0, cells := 0, slots := 0, locals := 0 } : Room) s m #[.ref a1, .ref a2] below meth c s₁ [] 0 0 := Stand.of_body Bd
  have e0 : s₁.heap = h0 := by rw [← hh, Bd.state]; rfl
  show own_Go p e below s 0 0 (own_P (.int (own_f1_1 u0 t0 t1 t2)) h0) (s₁.setTop (entryFrame m #[.ref a1, .ref a2] 4))
  rw [own_ef1]
  refine own_aloadN X0 hx (hb hby own_d1_0) (q := 1) rfl rfl rfl ?_
  refine own_iconst X0 hx (v := (0 : Int32)) (hb hby own_d1_1) (q := 2) rfl rfl ?_
  refine own_iaload X0 hx hZ (i := 0) (v := .int u0) e0 V0p (by decide) (by decide) rfl (hb hby own_d1_2) (q := 3) rfl ?_
  refine own_istoreN (L' := #[.val (.ref a1), .val (.ref a2), .val (.int u0), .unset]) X0 hx (hb hby own_d1_3) (q := 4) rfl rfl ?_
  refine own_iconst X0 hx (v := (1 : Int32)) (hb hby own_d1_4) (q := 5) rfl rfl ?_
  refine own_istoreN (L' := #[.val (.ref a1), .val (.ref a2), .val (.int u0), .val (.int (1 : Int32))]) X0 hx (hb hby own_d1_5) (q := 6) rfl rfl ?_
  refine own_iloadN X0 hx (hb hby own_d1_6) (q := 7) rfl rfl ?_
  refine own_aloadN X0 hx (hb hby own_d1_7) (q := 8) rfl rfl rfl ?_
  refine own_alen X0 hx hZ (n := (1 : Int32)) e0 V0p rfl (hb hby own_d1_8) (q := 9) rfl ?_
  refine own_icmpM X0 hx (hb hby own_d1_9) (cd := .ge) (x := (1 : Int32)) (y := (1 : Int32)) (pt := 34) (q := 12) (by decide) (by decide) rfl rfl (fun _ => ?_) (fun h => False.elim (((by decide) : ¬ ((1 : Int32) < (1 : Int32))) h))
  refine own_iloadN X0 hx (hb hby own_d1_34) (q := 35) rfl rfl ?_
  refine own_retI X0 hx hlk Bd.returns (hb hby own_d1_35) ?_ (by decide) (by decide)
  have r : own_f1_1 u0 t0 t1 t2 = u0 := by rw [own_f1_1]
  exact ⟨by rw [r] <;> rfl, e0, rfl⟩
theorem own_d1_12 : decode prog_21_method_3_code 12 = .ok (.aload_n 1, 1) := by decide +kernel
theorem own_d1_13 : decode prog_21_method_3_code 13 = .ok (.aload_n 0, 1) := by decide +kernel
theorem own_d1_14 : decode prog_21_method_3_code 14 = .ok (.iload_n 3, 1) := by decide +kernel
theorem own_d1_15 : decode prog_21_method_3_code 15 = .ok (.iaload, 1) := by decide +kernel
theorem own_d1_16 : decode prog_21_method_3_code 16 = .ok (.laload, 1) := by decide +kernel
theorem own_d1_17 : decode prog_21_method_3_code 17 = .ok (.aload_n 1, 1) := by decide +kernel
theorem own_d1_18 : decode prog_21_method_3_code 18 = .ok (.iload_n 2, 1) := by decide +kernel
theorem own_d1_19 : decode prog_21_method_3_code 19 = .ok (.laload, 1) := by decide +kernel
theorem own_d1_20 : decode prog_21_method_3_code 20 = .ok (.lcmp, 1) := by decide +kernel
theorem own_d1_21 : decode prog_21_method_3_code 21 = .ok (.ifCond .ge 7, 3) := by decide +kernel
theorem own_d1_24 : decode prog_21_method_3_code 24 = .ok (.aload_n 0, 1) := by decide +kernel
theorem own_d1_25 : decode prog_21_method_3_code 25 = .ok (.iload_n 3, 1) := by decide +kernel
theorem own_d1_26 : decode prog_21_method_3_code 26 = .ok (.iaload, 1) := by decide +kernel
theorem own_d1_27 : decode prog_21_method_3_code 27 = .ok (.istore_n 2, 1) := by decide +kernel
theorem own_d1_28 : decode prog_21_method_3_code 28 = .ok (.iinc 3 1, 3) := by decide +kernel
theorem own_d1_31 : decode prog_21_method_3_code 31 = .ok (.goto (-25), 3) := by decide +kernel
def own_f1_2 (u0 : Int32) (u1 : Int32) (t0 : Int64) (t1 : Int64) (t2 : Int64) : Int32 := (if (own_sel t0 t1 t2 u1) < (own_sel t0 t1 t2 u0) then u1 else u0)
set_option maxRecDepth 65536 in
set_option maxHeartbeats 40000000 in
theorem rm1_2 (l : Launch) (Z : State) (a0 : Array Value) (hw : ∀ d ∈ tables_1, d.before a0 Z = true) (ws : List Jvm.Cond) (a1 : Addr) (a2 : Addr) (u0 : Int32) (u1 : Int32) (t0 : Int64) (t1 : Int64) (t2 : Int64) (h0 : Heap) (V0p : own_A Z h0 a1 .int [.int u0, .int u1]) (V1p : own_A Z h0 a2 .long [.long t0, .long t1, .long t2]) (P_u0 : u0 = 0 ∨ u0 = 1 ∨ u0 = 2) (P_u1 : u1 = 0 ∨ u1 = 1 ∨ u1 = 2) :
    MetFree l (⟨"com/example/keys_across_workers/keysacrossworkers/routing/PartialKeyGrouping", "leastSent", "([I[J)I"⟩ : MethodName) (head1 (Jvm.Cond.code (⟨"com/example/keys_across_workers/keysacrossworkers/routing/PartialKeyGrouping", "leastSent", "([I[J)I"⟩ : MethodName) prog_21_method_3_code 4 (some .int) :: ws) ({ frames := 0, cells := 0, slots := 0, locals := 0 } : Room)) (fun a U => a = #[.ref a1, .ref a2] ∧ Z.Warmed39 U.vm ∧ U.heap = h0) (fun _ _ _ _ _ => True) (fun _ U o U' => ∃ v L, o = .returned v ∧ own_P (.int (own_f1_2 u0 u1 t0 t1 t2)) h0 v U'.heap L ∧ FrameEnd U o U' L ({ frames := 0, cells := 0, slots := 0, locals := 0 } : Room).cells ({ frames := 0, cells := 0, slots := 0, locals := 0 } : Room).slots) := by
  refine MetFree.of_bodySF (plainFor_of_name own_pn0) hisR ?_
  intro p e s m args below meth c s₁ Bd hml0 hP hK
  obtain ⟨rfl, hZ, hh⟩ := hP
  have hx := Bd.exec
  have hby := Bd.bytes
  have hml : c.maxLocals = 4 := hml0
  have hown : s.vm.findClass "com/example/keys_across_workers/keysacrossworkers/routing/PartialKeyGrouping" = some m.cls := findClass_of_methodNamed Bd.named
  have hnm := (name_of_methodNamed Bd.named Bd.method).1
  have hlk : meth.locks = false := BodyLoose.notSynchronized Bd
  have X0 : Stand p l e ({ frames := 0, cells := 0, slots := 0, locals := 0 } : Room) s m #[.ref a1, .ref a2] below meth c s₁ [] 0 0 := Stand.of_body Bd
  have e0 : s₁.heap = h0 := by rw [← hh, Bd.state]; rfl
  show own_Go p e below s 0 0 (own_P (.int (own_f1_2 u0 u1 t0 t1 t2)) h0) (s₁.setTop (entryFrame m #[.ref a1, .ref a2] 4))
  rw [own_ef1]
  refine own_aloadN X0 hx (hb hby own_d1_0) (q := 1) rfl rfl rfl ?_
  refine own_iconst X0 hx (v := (0 : Int32)) (hb hby own_d1_1) (q := 2) rfl rfl ?_
  refine own_iaload X0 hx hZ (i := 0) (v := .int u0) e0 V0p (by decide) (by decide) rfl (hb hby own_d1_2) (q := 3) rfl ?_
  refine own_istoreN (L' := #[.val (.ref a1), .val (.ref a2), .val (.int u0), .unset]) X0 hx (hb hby own_d1_3) (q := 4) rfl rfl ?_
  refine own_iconst X0 hx (v := (1 : Int32)) (hb hby own_d1_4) (q := 5) rfl rfl ?_
  refine own_istoreN (L' := #[.val (.ref a1), .val (.ref a2), .val (.int u0), .val (.int (1 : Int32))]) X0 hx (hb hby own_d1_5) (q := 6) rfl rfl ?_
  refine own_iloadN X0 hx (hb hby own_d1_6) (q := 7) rfl rfl ?_
  refine own_aloadN X0 hx (hb hby own_d1_7) (q := 8) rfl rfl rfl ?_
  refine own_alen X0 hx hZ (n := (2 : Int32)) e0 V0p rfl (hb hby own_d1_8) (q := 9) rfl ?_
  refine own_icmpM X0 hx (hb hby own_d1_9) (cd := .ge) (x := (1 : Int32)) (y := (2 : Int32)) (pt := 34) (q := 12) (by decide) (by decide) rfl rfl (fun h => False.elim (h ((by decide) : (1 : Int32) < (2 : Int32)))) (fun _ => ?_)
  refine own_aloadN X0 hx (hb hby own_d1_12) (q := 13) rfl rfl rfl ?_
  refine own_aloadN X0 hx (hb hby own_d1_13) (q := 14) rfl rfl rfl ?_
  refine own_iloadN X0 hx (hb hby own_d1_14) (q := 15) rfl rfl ?_
  refine own_iaload X0 hx hZ (i := 1) (v := .int u1) e0 V0p (by decide) (by decide) rfl (hb hby own_d1_15) (q := 16) rfl ?_
  refine own_laload X0 hx hZ (i := (u1).toNatClampNeg) (v := .long (own_sel t0 t1 t2 u1)) e0 V1p (own_selN P_u1) rfl (own_selV P_u1) (hb hby own_d1_16) (q := 17) rfl ?_
  refine own_aloadN X0 hx (hb hby own_d1_17) (q := 18) rfl rfl rfl ?_
  refine own_iloadN X0 hx (hb hby own_d1_18) (q := 19) rfl rfl ?_
  refine own_laload X0 hx hZ (i := (u0).toNatClampNeg) (v := .long (own_sel t0 t1 t2 u0)) e0 V1p (own_selN P_u0) rfl (own_selV P_u0) (hb hby own_d1_19) (q := 20) rfl ?_
  refine own_lcmp X0 hx (hb hby own_d1_20) (q := 21) rfl ?_
  refine own_ifLM X0 hx (hb hby own_d1_21) (cd := .ge) (x := own_sel t0 t1 t2 u1) (y := own_sel t0 t1 t2 u0) (pt := 28) (q := 24) (by decide) (by decide) rfl rfl (fun (c2 : ¬ ((own_sel t0 t1 t2 u1) < (own_sel t0 t1 t2 u0))) => ?_) (fun (c2 : (own_sel t0 t1 t2 u1) < (own_sel t0 t1 t2 u0)) => ?_)
  · refine own_iinc (L' := #[.val (.ref a1), .val (.ref a2), .val (.int u0), .val (.int ((1 : Int32) + (1 : Int32)))]) X0 hx (v := (1 : Int32)) (hb hby own_d1_28) (q := 31) rfl rfl rfl rfl ?_
    rw [show ((1 : Int32) + (1 : Int32) : Int32) = (2 : Int32) from by decide]
    refine own_goto X0 hx (hb hby own_d1_31) (q := 6) (by decide) (by decide) ?_
    refine own_iloadN X0 hx (hb hby own_d1_6) (q := 7) rfl rfl ?_
    refine own_aloadN X0 hx (hb hby own_d1_7) (q := 8) rfl rfl rfl ?_
    refine own_alen X0 hx hZ (n := (2 : Int32)) e0 V0p rfl (hb hby own_d1_8) (q := 9) rfl ?_
    refine own_icmpM X0 hx (hb hby own_d1_9) (cd := .ge) (x := (2 : Int32)) (y := (2 : Int32)) (pt := 34) (q := 12) (by decide) (by decide) rfl rfl (fun _ => ?_) (fun h => False.elim (((by decide) : ¬ ((2 : Int32) < (2 : Int32))) h))
    refine own_iloadN X0 hx (hb hby own_d1_34) (q := 35) rfl rfl ?_
    refine own_retI X0 hx hlk Bd.returns (hb hby own_d1_35) ?_ (by decide) (by decide)
    have r : own_f1_2 u0 u1 t0 t1 t2 = u0 := by rw [own_f1_2, if_neg c2]
    exact ⟨by rw [r] <;> rfl, e0, rfl⟩
  · refine own_aloadN X0 hx (hb hby own_d1_24) (q := 25) rfl rfl rfl ?_
    refine own_iloadN X0 hx (hb hby own_d1_25) (q := 26) rfl rfl ?_
    refine own_iaload X0 hx hZ (i := 1) (v := .int u1) e0 V0p (by decide) (by decide) rfl (hb hby own_d1_26) (q := 27) rfl ?_
    refine own_istoreN (L' := #[.val (.ref a1), .val (.ref a2), .val (.int u1), .val (.int (1 : Int32))]) X0 hx (hb hby own_d1_27) (q := 28) rfl rfl ?_
    refine own_iinc (L' := #[.val (.ref a1), .val (.ref a2), .val (.int u1), .val (.int ((1 : Int32) + (1 : Int32)))]) X0 hx (v := (1 : Int32)) (hb hby own_d1_28) (q := 31) rfl rfl rfl rfl ?_
    rw [show ((1 : Int32) + (1 : Int32) : Int32) = (2 : Int32) from by decide]
    refine own_goto X0 hx (hb hby own_d1_31) (q := 6) (by decide) (by decide) ?_
    refine own_iloadN X0 hx (hb hby own_d1_6) (q := 7) rfl rfl ?_
    refine own_aloadN X0 hx (hb hby own_d1_7) (q := 8) rfl rfl rfl ?_
    refine own_alen X0 hx hZ (n := (2 : Int32)) e0 V0p rfl (hb hby own_d1_8) (q := 9) rfl ?_
    refine own_icmpM X0 hx (hb hby own_d1_9) (cd := .ge) (x := (2 : Int32)) (y := (2 : Int32)) (pt := 34) (q := 12) (by decide) (by decide) rfl rfl (fun _ => ?_) (fun h => False.elim (((by decide) : ¬ ((2 : Int32) < (2 : Int32))) h))
    refine own_iloadN X0 hx (hb hby own_d1_34) (q := 35) rfl rfl ?_
    refine own_retI X0 hx hlk Bd.returns (hb hby own_d1_35) ?_ (by decide) (by decide)
    have r : own_f1_2 u0 u1 t0 t1 t2 = u1 := by rw [own_f1_2, if_pos c2]
    exact ⟨by rw [r] <;> rfl, e0, rfl⟩

def own_f1_3 (u0 : Int32) (u1 : Int32) (u2 : Int32) (t0 : Int64) (t1 : Int64) (t2 : Int64) : Int32 := (if (own_sel t0 t1 t2 u1) < (own_sel t0 t1 t2 u0) then (if (own_sel t0 t1 t2 u2) < (own_sel t0 t1 t2 u1) then u2 else u1) else (if (own_sel t0 t1 t2 u2) < (own_sel t0 t1 t2 u0) then u2 else u0))
set_option maxRecDepth 65536 in
set_option maxHeartbeats 40000000 in
theorem rm1_3 (l : Launch) (Z : State) (a0 : Array Value) (hw : ∀ d ∈ tables_1, d.before a0 Z = true) (ws : List Jvm.Cond) (a1 : Addr) (a2 : Addr) (u0 : Int32) (u1 : Int32) (u2 : Int32) (t0 : Int64) (t1 : Int64) (t2 : Int64) (h0 : Heap) (V0p : own_A Z h0 a1 .int [.int u0, .int u1, .int u2]) (V1p : own_A Z h0 a2 .long [.long t0, .long t1, .long t2]) (P_u0 : u0 = 0 ∨ u0 = 1 ∨ u0 = 2) (P_u1 : u1 = 0 ∨ u1 = 1 ∨ u1 = 2) (P_u2 : u2 = 0 ∨ u2 = 1 ∨ u2 = 2) :
    MetFree l (⟨"com/example/keys_across_workers/keysacrossworkers/routing/PartialKeyGrouping", "leastSent", "([I[J)I"⟩ : MethodName) (head1 (Jvm.Cond.code (⟨"com/example/keys_across_workers/keysacrossworkers/routing/PartialKeyGrouping", "leastSent", "([I[J)I"⟩ : MethodName) prog_21_method_3_code 4 (some .int) :: ws) ({ frames := 0, cells := 0, slots := 0, locals := 0 } : Room)) (fun a U => a = #[.ref a1, .ref a2] ∧ Z.Warmed39 U.vm ∧ U.heap = h0) (fun _ _ _ _ _ => True) (fun _ U o U' => ∃ v L, o = .returned v ∧ own_P (.int (own_f1_3 u0 u1 u2 t0 t1 t2)) h0 v U'.heap L ∧ FrameEnd U o U' L ({ frames := 0, cells := 0, slots := 0, locals := 0 } : Room).cells ({ frames := 0, cells := 0, slots := 0, locals := 0 } : Room).slots) := by
  refine MetFree.of_bodySF (plainFor_of_name own_pn0) hisR ?_
  intro p e s m args below meth c s₁ Bd hml0 hP hK
  obtain ⟨rfl, hZ, hh⟩ := hP
  have hx := Bd.exec
  have hby := Bd.bytes
  have hml : c.maxLocals = 4 := hml0
  have hown : s.vm.findClass "com/example/keys_across_workers/keysacrossworkers/routing/PartialKeyGrouping" = some m.cls := findClass_of_methodNamed Bd.named
  have hnm := (name_of_methodNamed Bd.named Bd.method).1
  have hlk : meth.locks = false := BodyLoose.notSynchronized Bd
  have X0 : Stand p l e ({ frames := 0, cells := 0, slots := 0, locals := 0 } : Room) s m #[.ref a1, .ref a2] below meth c s₁ [] 0 0 := Stand.of_body Bd
  have e0 : s₁.heap = h0 := by rw [← hh, Bd.state]; rfl
  show own_Go p e below s 0 0 (own_P (.int (own_f1_3 u0 u1 u2 t0 t1 t2)) h0) (s₁.setTop (entryFrame m #[.ref a1, .ref a2] 4))
  rw [own_ef1]
  refine own_aloadN X0 hx (hb hby own_d1_0) (q := 1) rfl rfl rfl ?_
  refine own_iconst X0 hx (v := (0 : Int32)) (hb hby own_d1_1) (q := 2) rfl rfl ?_
  refine own_iaload X0 hx hZ (i := 0) (v := .int u0) e0 V0p (by decide) (by decide) rfl (hb hby own_d1_2) (q := 3) rfl ?_
  refine own_istoreN (L' := #[.val (.ref a1), .val (.ref a2), .val (.int u0), .unset]) X0 hx (hb hby own_d1_3) (q := 4) rfl rfl ?_
  refine own_iconst X0 hx (v := (1 : Int32)) (hb hby own_d1_4) (q := 5) rfl rfl ?_
  refine own_istoreN (L' := #[.val (.ref a1), .val (.ref a2), .val (.int u0), .val (.int (1 : Int32))]) X0 hx (hb hby own_d1_5) (q := 6) rfl rfl ?_
  refine own_iloadN X0 hx (hb hby own_d1_6) (q := 7) rfl rfl ?_
  refine own_aloadN X0 hx (hb hby own_d1_7) (q := 8) rfl rfl rfl ?_
  refine own_alen X0 hx hZ (n := (3 : Int32)) e0 V0p rfl (hb hby own_d1_8) (q := 9) rfl ?_
  refine own_icmpM X0 hx (hb hby own_d1_9) (cd := .ge) (x := (1 : Int32)) (y := (3 : Int32)) (pt := 34) (q := 12) (by decide) (by decide) rfl rfl (fun h => False.elim (h ((by decide) : (1 : Int32) < (3 : Int32)))) (fun _ => ?_)
  refine own_aloadN X0 hx (hb hby own_d1_12) (q := 13) rfl rfl rfl ?_
  refine own_aloadN X0 hx (hb hby own_d1_13) (q := 14) rfl rfl rfl ?_
  refine own_iloadN X0 hx (hb hby own_d1_14) (q := 15) rfl rfl ?_
  refine own_iaload X0 hx hZ (i := 1) (v := .int u1) e0 V0p (by decide) (by decide) rfl (hb hby own_d1_15) (q := 16) rfl ?_
  refine own_laload X0 hx hZ (i := (u1).toNatClampNeg) (v := .long (own_sel t0 t1 t2 u1)) e0 V1p (own_selN P_u1) rfl (own_selV P_u1) (hb hby own_d1_16) (q := 17) rfl ?_
  refine own_aloadN X0 hx (hb hby own_d1_17) (q := 18) rfl rfl rfl ?_
  refine own_iloadN X0 hx (hb hby own_d1_18) (q := 19) rfl rfl ?_
  refine own_laload X0 hx hZ (i := (u0).toNatClampNeg) (v := .long (own_sel t0 t1 t2 u0)) e0 V1p (own_selN P_u0) rfl (own_selV P_u0) (hb hby own_d1_19) (q := 20) rfl ?_
  refine own_lcmp X0 hx (hb hby own_d1_20) (q := 21) rfl ?_
  refine own_ifLM X0 hx (hb hby own_d1_21) (cd := .ge) (x := own_sel t0 t1 t2 u1) (y := own_sel t0 t1 t2 u0) (pt := 28) (q := 24) (by decide) (by decide) rfl rfl (fun (c2 : ¬ ((own_sel t0 t1 t2 u1) < (own_sel t0 t1 t2 u0))) => ?_) (fun (c2 : (own_sel t0 t1 t2 u1) < (own_sel t0 t1 t2 u0)) => ?_)
  · refine own_iinc (L' := #[.val (.ref a1), .val (.ref a2), .val (.int u0), .val (.int ((1 : Int32) + (1 : Int32)))]) X0 hx (v := (1 : Int32)) (hb hby own_d1_28) (q := 31) rfl rfl rfl rfl ?_
    rw [show ((1 : Int32) + (1 : Int32) : Int32) = (2 : Int32) from by decide]
    refine own_goto X0 hx (hb hby own_d1_31) (q := 6) (by decide) (by decide) ?_
    refine own_iloadN X0 hx (hb hby own_d1_6) (q := 7) rfl rfl ?_
    refine own_aloadN X0 hx (hb hby own_d1_7) (q := 8) rfl rfl rfl ?_
    refine own_alen X0 hx hZ (n := (3 : Int32)) e0 V0p rfl (hb hby own_d1_8) (q := 9) rfl ?_
    refine own_icmpM X0 hx (hb hby own_d1_9) (cd := .ge) (x := (2 : Int32)) (y := (3 : Int32)) (pt := 34) (q := 12) (by decide) (by decide) rfl rfl (fun h => False.elim (h ((by decide) : (2 : Int32) < (3 : Int32)))) (fun _ => ?_)
    refine own_aloadN X0 hx (hb hby own_d1_12) (q := 13) rfl rfl rfl ?_
    refine own_aloadN X0 hx (hb hby own_d1_13) (q := 14) rfl rfl rfl ?_
    refine own_iloadN X0 hx (hb hby own_d1_14) (q := 15) rfl rfl ?_
    refine own_iaload X0 hx hZ (i := 2) (v := .int u2) e0 V0p (by decide) (by decide) rfl (hb hby own_d1_15) (q := 16) rfl ?_
    refine own_laload X0 hx hZ (i := (u2).toNatClampNeg) (v := .long (own_sel t0 t1 t2 u2)) e0 V1p (own_selN P_u2) rfl (own_selV P_u2) (hb hby own_d1_16) (q := 17) rfl ?_
    refine own_aloadN X0 hx (hb hby own_d1_17) (q := 18) rfl rfl rfl ?_
    refine own_iloadN X0 hx (hb hby own_d1_18) (q := 19) rfl rfl ?_
    refine own_laload X0 hx hZ (i := (u0).toNatClampNeg) (v := .long (own_sel t0 t1 t2 u0)) e0 V1p (own_selN P_u0) rfl (own_selV P_u0) (hb hby own_d1_19) (q := 20) rfl ?_
    refine own_lcmp X0 hx (hb hby own_d1_20) (q := 21) rfl ?_
    refine own_ifLM X0 hx (hb hby own_d1_21) (cd := .ge) (x := own_sel t0 t1 t2 u2) (y := own_sel t0 t1 t2 u0) (pt := 28) (q := 24) (by decide) (by decide) rfl rfl (fun (c4 : ¬ ((own_sel t0 t1 t2 u2) < (own_sel t0 t1 t2 u0))) => ?_) (fun (c4 : (own_sel t0 t1 t2 u2) < (own_sel t0 t1 t2 u0)) => ?_)
    · refine own_iinc (L' := #[.val (.ref a1), .val (.ref a2), .val (.int u0), .val (.int ((2 : Int32) + (1 : Int32)))]) X0 hx (v := (1 : Int32)) (hb hby own_d1_28) (q := 31) rfl rfl rfl rfl ?_
      rw [show ((2 : Int32) + (1 : Int32) : Int32) = (3 : Int32) from by decide]
      refine own_goto X0 hx (hb hby own_d1_31) (q := 6) (by decide) (by decide) ?_
      refine own_iloadN X0 hx (hb hby own_d1_6) (q := 7) rfl rfl ?_
      refine own_aloadN X0 hx (hb hby own_d1_7) (q := 8) rfl rfl rfl ?_
      refine own_alen X0 hx hZ (n := (3 : Int32)) e0 V0p rfl (hb hby own_d1_8) (q := 9) rfl ?_
      refine own_icmpM X0 hx (hb hby own_d1_9) (cd := .ge) (x := (3 : Int32)) (y := (3 : Int32)) (pt := 34) (q := 12) (by decide) (by decide) rfl rfl (fun _ => ?_) (fun h => False.elim (((by decide) : ¬ ((3 : Int32) < (3 : Int32))) h))
      refine own_iloadN X0 hx (hb hby own_d1_34) (q := 35) rfl rfl ?_
      refine own_retI X0 hx hlk Bd.returns (hb hby own_d1_35) ?_ (by decide) (by decide)
      have r : own_f1_3 u0 u1 u2 t0 t1 t2 = u0 := by rw [own_f1_3, if_neg c2, if_neg c4]
      exact ⟨by rw [r] <;> rfl, e0, rfl⟩
    · refine own_aloadN X0 hx (hb hby own_d1_24) (q := 25) rfl rfl rfl ?_
      refine own_iloadN X0 hx (hb hby own_d1_25) (q := 26) rfl rfl ?_
      refine own_iaload X0 hx hZ (i := 2) (v := .int u2) e0 V0p (by decide) (by decide) rfl (hb hby own_d1_26) (q := 27) rfl ?_
      refine own_istoreN (L' := #[.val (.ref a1), .val (.ref a2), .val (.int u2), .val (.int (2 : Int32))]) X0 hx (hb hby own_d1_27) (q := 28) rfl rfl ?_
      refine own_iinc (L' := #[.val (.ref a1), .val (.ref a2), .val (.int u2), .val (.int ((2 : Int32) + (1 : Int32)))]) X0 hx (v := (1 : Int32)) (hb hby own_d1_28) (q := 31) rfl rfl rfl rfl ?_
      rw [show ((2 : Int32) + (1 : Int32) : Int32) = (3 : Int32) from by decide]
      refine own_goto X0 hx (hb hby own_d1_31) (q := 6) (by decide) (by decide) ?_
      refine own_iloadN X0 hx (hb hby own_d1_6) (q := 7) rfl rfl ?_
      refine own_aloadN X0 hx (hb hby own_d1_7) (q := 8) rfl rfl rfl ?_
      refine own_alen X0 hx hZ (n := (3 : Int32)) e0 V0p rfl (hb hby own_d1_8) (q := 9) rfl ?_
      refine own_icmpM X0 hx (hb hby own_d1_9) (cd := .ge) (x := (3 : Int32)) (y := (3 : Int32)) (pt := 34) (q := 12) (by decide) (by decide) rfl rfl (fun _ => ?_) (fun h => False.elim (((by decide) : ¬ ((3 : Int32) < (3 : Int32))) h))
      refine own_iloadN X0 hx (hb hby own_d1_34) (q := 35) rfl rfl ?_
      refine own_retI X0 hx hlk Bd.returns (hb hby own_d1_35) ?_ (by decide) (by decide)
      have r : own_f1_3 u0 u1 u2 t0 t1 t2 = u2 := by rw [own_f1_3, if_neg c2, if_pos c4]
      exact ⟨by rw [r] <;> rfl, e0, rfl⟩
  · refine own_aloadN X0 hx (hb hby own_d1_24) (q := 25) rfl rfl rfl ?_
    refine own_iloadN X0 hx (hb hby own_d1_25) (q := 26) rfl rfl ?_
    refine own_iaload X0 hx hZ (i := 1) (v := .int u1) e0 V0p (by decide) (by decide) rfl (hb hby own_d1_26) (q := 27) rfl ?_
    refine own_istoreN (L' := #[.val (.ref a1), .val (.ref a2), .val (.int u1), .val (.int (1 : Int32))]) X0 hx (hb hby own_d1_27) (q := 28) rfl rfl ?_
    refine own_iinc (L' := #[.val (.ref a1), .val (.ref a2), .val (.int u1), .val (.int ((1 : Int32) + (1 : Int32)))]) X0 hx (v := (1 : Int32)) (hb hby own_d1_28) (q := 31) rfl rfl rfl rfl ?_
    rw [show ((1 : Int32) + (1 : Int32) : Int32) = (2 : Int32) from by decide]
    refine own_goto X0 hx (hb hby own_d1_31) (q := 6) (by decide) (by decide) ?_
    refine own_iloadN X0 hx (hb hby own_d1_6) (q := 7) rfl rfl ?_
    refine own_aloadN X0 hx (hb hby own_d1_7) (q := 8) rfl rfl rfl ?_
    refine own_alen X0 hx hZ (n := (3 : Int32)) e0 V0p rfl (hb hby own_d1_8) (q := 9) rfl ?_
    refine own_icmpM X0 hx (hb hby own_d1_9) (cd := .ge) (x := (2 : Int32)) (y := (3 : Int32)) (pt := 34) (q := 12) (by decide) (by decide) rfl rfl (fun h => False.elim (h ((by decide) : (2 : Int32) < (3 : Int32)))) (fun _ => ?_)
    refine own_aloadN X0 hx (hb hby own_d1_12) (q := 13) rfl rfl rfl ?_
    refine own_aloadN X0 hx (hb hby own_d1_13) (q := 14) rfl rfl rfl ?_
    refine own_iloadN X0 hx (hb hby own_d1_14) (q := 15) rfl rfl ?_
    refine own_iaload X0 hx hZ (i := 2) (v := .int u2) e0 V0p (by decide) (by decide) rfl (hb hby own_d1_15) (q := 16) rfl ?_
    refine own_laload X0 hx hZ (i := (u2).toNatClampNeg) (v := .long (own_sel t0 t1 t2 u2)) e0 V1p (own_selN P_u2) rfl (own_selV P_u2) (hb hby own_d1_16) (q := 17) rfl ?_
    refine own_aloadN X0 hx (hb hby own_d1_17) (q := 18) rfl rfl rfl ?_
    refine own_iloadN X0 hx (hb hby own_d1_18) (q := 19) rfl rfl ?_
    refine own_laload X0 hx hZ (i := (u1).toNatClampNeg) (v := .long (own_sel t0 t1 t2 u1)) e0 V1p (own_selN P_u1) rfl (own_selV P_u1) (hb hby own_d1_19) (q := 20) rfl ?_
    refine own_lcmp X0 hx (hb hby own_d1_20) (q := 21) rfl ?_
    refine own_ifLM X0 hx (hb hby own_d1_21) (cd := .ge) (x := own_sel t0 t1 t2 u2) (y := own_sel t0 t1 t2 u1) (pt := 28) (q := 24) (by decide) (by decide) rfl rfl (fun (c8 : ¬ ((own_sel t0 t1 t2 u2) < (own_sel t0 t1 t2 u1))) => ?_) (fun (c8 : (own_sel t0 t1 t2 u2) < (own_sel t0 t1 t2 u1)) => ?_)
    · refine own_iinc (L' := #[.val (.ref a1), .val (.ref a2), .val (.int u1), .val (.int ((2 : Int32) + (1 : Int32)))]) X0 hx (v := (1 : Int32)) (hb hby own_d1_28) (q := 31) rfl rfl rfl rfl ?_
      rw [show ((2 : Int32) + (1 : Int32) : Int32) = (3 : Int32) from by decide]
      refine own_goto X0 hx (hb hby own_d1_31) (q := 6) (by decide) (by decide) ?_
      refine own_iloadN X0 hx (hb hby own_d1_6) (q := 7) rfl rfl ?_
      refine own_aloadN X0 hx (hb hby own_d1_7) (q := 8) rfl rfl rfl ?_
      refine own_alen X0 hx hZ (n := (3 : Int32)) e0 V0p rfl (hb hby own_d1_8) (q := 9) rfl ?_
      refine own_icmpM X0 hx (hb hby own_d1_9) (cd := .ge) (x := (3 : Int32)) (y := (3 : Int32)) (pt := 34) (q := 12) (by decide) (by decide) rfl rfl (fun _ => ?_) (fun h => False.elim (((by decide) : ¬ ((3 : Int32) < (3 : Int32))) h))
      refine own_iloadN X0 hx (hb hby own_d1_34) (q := 35) rfl rfl ?_
      refine own_retI X0 hx hlk Bd.returns (hb hby own_d1_35) ?_ (by decide) (by decide)
      have r : own_f1_3 u0 u1 u2 t0 t1 t2 = u1 := by rw [own_f1_3, if_pos c2, if_neg c8]
      exact ⟨by rw [r] <;> rfl, e0, rfl⟩
    · refine own_aloadN X0 hx (hb hby own_d1_24) (q := 25) rfl rfl rfl ?_
      refine own_iloadN X0 hx (hb hby own_d1_25) (q := 26) rfl rfl ?_
      refine own_iaload X0 hx hZ (i := 2) (v := .int u2) e0 V0p (by decide) (by decide) rfl (hb hby own_d1_26) (q := 27) rfl ?_
      refine own_istoreN (L' := #[.val (.ref a1), .val (.ref a2), .val (.int u2), .val (.int (2 : Int32))]) X0 hx (hb hby own_d1_27) (q := 28) rfl rfl ?_
      refine own_iinc (L' := #[.val (.ref a1), .val (.ref a2), .val (.int u2), .val (.int ((2 : Int32) + (1 : Int32)))]) X0 hx (v := (1 : Int32)) (hb hby own_d1_28) (q := 31) rfl rfl rfl rfl ?_
      rw [show ((2 : Int32) + (1 : Int32) : Int32) = (3 : Int32) from by decide]
      refine own_goto X0 hx (hb hby own_d1_31) (q := 6) (by decide) (by decide) ?_
      refine own_iloadN X0 hx (hb hby own_d1_6) (q := 7) rfl rfl ?_
      refine own_aloadN X0 hx (hb hby own_d1_7) (q := 8) rfl rfl rfl ?_
      refine own_alen X0 hx hZ (n := (3 : Int32)) e0 V0p rfl (hb hby own_d1_8) (q := 9) rfl ?_
      refine own_icmpM X0 hx (hb hby own_d1_9) (cd := .ge) (x := (3 : Int32)) (y := (3 : Int32)) (pt := 34) (q := 12) (by decide) (by decide) rfl rfl (fun _ => ?_) (fun h => False.elim (((by decide) : ¬ ((3 : Int32) < (3 : Int32))) h))
      refine own_iloadN X0 hx (hb hby own_d1_34) (q := 35) rfl rfl ?_
      refine own_retI X0 hx hlk Bd.returns (hb hby own_d1_35) ?_ (by decide) (by decide)
      have r : own_f1_3 u0 u1 u2 t0 t1 t2 = u2 := by rw [own_f1_3, if_pos c2, if_pos c8]
      exact ⟨by rw [r] <;> rfl, e0, rfl⟩

def own_f1_4 (u0 : Int32) (u1 : Int32) (u2 : Int32) (u3 : Int32) (t0 : Int64) (t1 : Int64) (t2 : Int64) : Int32 := (if (own_sel t0 t1 t2 u1) < (own_sel t0 t1 t2 u0) then (if (own_sel t0 t1 t2 u2) < (own_sel t0 t1 t2 u1) then (if (own_sel t0 t1 t2 u3) < (own_sel t0 t1 t2 u2) then u3 else u2) else (if (own_sel t0 t1 t2 u3) < (own_sel t0 t1 t2 u1) then u3 else u1)) else (if (own_sel t0 t1 t2 u2) < (own_sel t0 t1 t2 u0) then (if (own_sel t0 t1 t2 u3) < (own_sel t0 t1 t2 u2) then u3 else u2) else (if (own_sel t0 t1 t2 u3) < (own_sel t0 t1 t2 u0) then u3 else u0)))
set_option maxRecDepth 65536 in
set_option maxHeartbeats 40000000 in
theorem rm1_4 (l : Launch) (Z : State) (a0 : Array Value) (hw : ∀ d ∈ tables_1, d.before a0 Z = true) (ws : List Jvm.Cond) (a1 : Addr) (a2 : Addr) (u0 : Int32) (u1 : Int32) (u2 : Int32) (u3 : Int32) (t0 : Int64) (t1 : Int64) (t2 : Int64) (h0 : Heap) (V0p : own_A Z h0 a1 .int [.int u0, .int u1, .int u2, .int u3]) (V1p : own_A Z h0 a2 .long [.long t0, .long t1, .long t2]) (P_u0 : u0 = 0 ∨ u0 = 1 ∨ u0 = 2) (P_u1 : u1 = 0 ∨ u1 = 1 ∨ u1 = 2) (P_u2 : u2 = 0 ∨ u2 = 1 ∨ u2 = 2) (P_u3 : u3 = 0 ∨ u3 = 1 ∨ u3 = 2) :
    MetFree l (⟨"com/example/keys_across_workers/keysacrossworkers/routing/PartialKeyGrouping", "leastSent", "([I[J)I"⟩ : MethodName) (head1 (Jvm.Cond.code (⟨"com/example/keys_across_workers/keysacrossworkers/routing/PartialKeyGrouping", "leastSent", "([I[J)I"⟩ : MethodName) prog_21_method_3_code 4 (some .int) :: ws) ({ frames := 0, cells := 0, slots := 0, locals := 0 } : Room)) (fun a U => a = #[.ref a1, .ref a2] ∧ Z.Warmed39 U.vm ∧ U.heap = h0) (fun _ _ _ _ _ => True) (fun _ U o U' => ∃ v L, o = .returned v ∧ own_P (.int (own_f1_4 u0 u1 u2 u3 t0 t1 t2)) h0 v U'.heap L ∧ FrameEnd U o U' L ({ frames := 0, cells := 0, slots := 0, locals := 0 } : Room).cells ({ frames := 0, cells := 0, slots := 0, locals := 0 } : Room).slots) := by
  refine MetFree.of_bodySF (plainFor_of_name own_pn0) hisR ?_
  intro p e s m args below meth c s₁ Bd hml0 hP hK
  obtain ⟨rfl, hZ, hh⟩ := hP
  have hx := Bd.exec
  have hby := Bd.bytes
  have hml : c.maxLocals = 4 := hml0
  have hown : s.vm.findClass "com/example/keys_across_workers/keysacrossworkers/routing/PartialKeyGrouping" = some m.cls := findClass_of_methodNamed Bd.named
  have hnm := (name_of_methodNamed Bd.named Bd.method).1
  have hlk : meth.locks = false := BodyLoose.notSynchronized Bd
  have X0 : Stand p l e ({ frames := 0, cells := 0, slots := 0, locals := 0 } : Room) s m #[.ref a1, .ref a2] below meth c s₁ [] 0 0 := Stand.of_body Bd
  have e0 : s₁.heap = h0 := by rw [← hh, Bd.state]; rfl
  show own_Go p e below s 0 0 (own_P (.int (own_f1_4 u0 u1 u2 u3 t0 t1 t2)) h0) (s₁.setTop (entryFrame m #[.ref a1, .ref a2] 4))
  rw [own_ef1]
  refine own_aloadN X0 hx (hb hby own_d1_0) (q := 1) rfl rfl rfl ?_
  refine own_iconst X0 hx (v := (0 : Int32)) (hb hby own_d1_1) (q := 2) rfl rfl ?_
  refine own_iaload X0 hx hZ (i := 0) (v := .int u0) e0 V0p (by decide) (by decide) rfl (hb hby own_d1_2) (q := 3) rfl ?_
  refine own_istoreN (L' := #[.val (.ref a1), .val (.ref a2), .val (.int u0), .unset]) X0 hx (hb hby own_d1_3) (q := 4) rfl rfl ?_
  refine own_iconst X0 hx (v := (1 : Int32)) (hb hby own_d1_4) (q := 5) rfl rfl ?_
  refine own_istoreN (L' := #[.val (.ref a1), .val (.ref a2), .val (.int u0), .val (.int (1 : Int32))]) X0 hx (hb hby own_d1_5) (q := 6) rfl rfl ?_
  refine own_iloadN X0 hx (hb hby own_d1_6) (q := 7) rfl rfl ?_
  refine own_aloadN X0 hx (hb hby own_d1_7) (q := 8) rfl rfl rfl ?_
  refine own_alen X0 hx hZ (n := (4 : Int32)) e0 V0p rfl (hb hby own_d1_8) (q := 9) rfl ?_
  refine own_icmpM X0 hx (hb hby own_d1_9) (cd := .ge) (x := (1 : Int32)) (y := (4 : Int32)) (pt := 34) (q := 12) (by decide) (by decide) rfl rfl (fun h => False.elim (h ((by decide) : (1 : Int32) < (4 : Int32)))) (fun _ => ?_)
  refine own_aloadN X0 hx (hb hby own_d1_12) (q := 13) rfl rfl rfl ?_
  refine own_aloadN X0 hx (hb hby own_d1_13) (q := 14) rfl rfl rfl ?_
  refine own_iloadN X0 hx (hb hby own_d1_14) (q := 15) rfl rfl ?_
  refine own_iaload X0 hx hZ (i := 1) (v := .int u1) e0 V0p (by decide) (by decide) rfl (hb hby own_d1_15) (q := 16) rfl ?_
  refine own_laload X0 hx hZ (i := (u1).toNatClampNeg) (v := .long (own_sel t0 t1 t2 u1)) e0 V1p (own_selN P_u1) rfl (own_selV P_u1) (hb hby own_d1_16) (q := 17) rfl ?_
  refine own_aloadN X0 hx (hb hby own_d1_17) (q := 18) rfl rfl rfl ?_
  refine own_iloadN X0 hx (hb hby own_d1_18) (q := 19) rfl rfl ?_
  refine own_laload X0 hx hZ (i := (u0).toNatClampNeg) (v := .long (own_sel t0 t1 t2 u0)) e0 V1p (own_selN P_u0) rfl (own_selV P_u0) (hb hby own_d1_19) (q := 20) rfl ?_
  refine own_lcmp X0 hx (hb hby own_d1_20) (q := 21) rfl ?_
  refine own_ifLM X0 hx (hb hby own_d1_21) (cd := .ge) (x := own_sel t0 t1 t2 u1) (y := own_sel t0 t1 t2 u0) (pt := 28) (q := 24) (by decide) (by decide) rfl rfl (fun (c2 : ¬ ((own_sel t0 t1 t2 u1) < (own_sel t0 t1 t2 u0))) => ?_) (fun (c2 : (own_sel t0 t1 t2 u1) < (own_sel t0 t1 t2 u0)) => ?_)
  · refine own_iinc (L' := #[.val (.ref a1), .val (.ref a2), .val (.int u0), .val (.int ((1 : Int32) + (1 : Int32)))]) X0 hx (v := (1 : Int32)) (hb hby own_d1_28) (q := 31) rfl rfl rfl rfl ?_
    rw [show ((1 : Int32) + (1 : Int32) : Int32) = (2 : Int32) from by decide]
    refine own_goto X0 hx (hb hby own_d1_31) (q := 6) (by decide) (by decide) ?_
    refine own_iloadN X0 hx (hb hby own_d1_6) (q := 7) rfl rfl ?_
    refine own_aloadN X0 hx (hb hby own_d1_7) (q := 8) rfl rfl rfl ?_
    refine own_alen X0 hx hZ (n := (4 : Int32)) e0 V0p rfl (hb hby own_d1_8) (q := 9) rfl ?_
    refine own_icmpM X0 hx (hb hby own_d1_9) (cd := .ge) (x := (2 : Int32)) (y := (4 : Int32)) (pt := 34) (q := 12) (by decide) (by decide) rfl rfl (fun h => False.elim (h ((by decide) : (2 : Int32) < (4 : Int32)))) (fun _ => ?_)
    refine own_aloadN X0 hx (hb hby own_d1_12) (q := 13) rfl rfl rfl ?_
    refine own_aloadN X0 hx (hb hby own_d1_13) (q := 14) rfl rfl rfl ?_
    refine own_iloadN X0 hx (hb hby own_d1_14) (q := 15) rfl rfl ?_
    refine own_iaload X0 hx hZ (i := 2) (v := .int u2) e0 V0p (by decide) (by decide) rfl (hb hby own_d1_15) (q := 16) rfl ?_
    refine own_laload X0 hx hZ (i := (u2).toNatClampNeg) (v := .long (own_sel t0 t1 t2 u2)) e0 V1p (own_selN P_u2) rfl (own_selV P_u2) (hb hby own_d1_16) (q := 17) rfl ?_
    refine own_aloadN X0 hx (hb hby own_d1_17) (q := 18) rfl rfl rfl ?_
    refine own_iloadN X0 hx (hb hby own_d1_18) (q := 19) rfl rfl ?_
    refine own_laload X0 hx hZ (i := (u0).toNatClampNeg) (v := .long (own_sel t0 t1 t2 u0)) e0 V1p (own_selN P_u0) rfl (own_selV P_u0) (hb hby own_d1_19) (q := 20) rfl ?_
    refine own_lcmp X0 hx (hb hby own_d1_20) (q := 21) rfl ?_
    refine own_ifLM X0 hx (hb hby own_d1_21) (cd := .ge) (x := own_sel t0 t1 t2 u2) (y := own_sel t0 t1 t2 u0) (pt := 28) (q := 24) (by decide) (by decide) rfl rfl (fun (c4 : ¬ ((own_sel t0 t1 t2 u2) < (own_sel t0 t1 t2 u0))) => ?_) (fun (c4 : (own_sel t0 t1 t2 u2) < (own_sel t0 t1 t2 u0)) => ?_)
    · refine own_iinc (L' := #[.val (.ref a1), .val (.ref a2), .val (.int u0), .val (.int ((2 : Int32) + (1 : Int32)))]) X0 hx (v := (1 : Int32)) (hb hby own_d1_28) (q := 31) rfl rfl rfl rfl ?_
      rw [show ((2 : Int32) + (1 : Int32) : Int32) = (3 : Int32) from by decide]
      refine own_goto X0 hx (hb hby own_d1_31) (q := 6) (by decide) (by decide) ?_
      refine own_iloadN X0 hx (hb hby own_d1_6) (q := 7) rfl rfl ?_
      refine own_aloadN X0 hx (hb hby own_d1_7) (q := 8) rfl rfl rfl ?_
      refine own_alen X0 hx hZ (n := (4 : Int32)) e0 V0p rfl (hb hby own_d1_8) (q := 9) rfl ?_
      refine own_icmpM X0 hx (hb hby own_d1_9) (cd := .ge) (x := (3 : Int32)) (y := (4 : Int32)) (pt := 34) (q := 12) (by decide) (by decide) rfl rfl (fun h => False.elim (h ((by decide) : (3 : Int32) < (4 : Int32)))) (fun _ => ?_)
      refine own_aloadN X0 hx (hb hby own_d1_12) (q := 13) rfl rfl rfl ?_
      refine own_aloadN X0 hx (hb hby own_d1_13) (q := 14) rfl rfl rfl ?_
      refine own_iloadN X0 hx (hb hby own_d1_14) (q := 15) rfl rfl ?_
      refine own_iaload X0 hx hZ (i := 3) (v := .int u3) e0 V0p (by decide) (by decide) rfl (hb hby own_d1_15) (q := 16) rfl ?_
      refine own_laload X0 hx hZ (i := (u3).toNatClampNeg) (v := .long (own_sel t0 t1 t2 u3)) e0 V1p (own_selN P_u3) rfl (own_selV P_u3) (hb hby own_d1_16) (q := 17) rfl ?_
      refine own_aloadN X0 hx (hb hby own_d1_17) (q := 18) rfl rfl rfl ?_
      refine own_iloadN X0 hx (hb hby own_d1_18) (q := 19) rfl rfl ?_
      refine own_laload X0 hx hZ (i := (u0).toNatClampNeg) (v := .long (own_sel t0 t1 t2 u0)) e0 V1p (own_selN P_u0) rfl (own_selV P_u0) (hb hby own_d1_19) (q := 20) rfl ?_
      refine own_lcmp X0 hx (hb hby own_d1_20) (q := 21) rfl ?_
      refine own_ifLM X0 hx (hb hby own_d1_21) (cd := .ge) (x := own_sel t0 t1 t2 u3) (y := own_sel t0 t1 t2 u0) (pt := 28) (q := 24) (by decide) (by decide) rfl rfl (fun (c6 : ¬ ((own_sel t0 t1 t2 u3) < (own_sel t0 t1 t2 u0))) => ?_) (fun (c6 : (own_sel t0 t1 t2 u3) < (own_sel t0 t1 t2 u0)) => ?_)
      · refine own_iinc (L' := #[.val (.ref a1), .val (.ref a2), .val (.int u0), .val (.int ((3 : Int32) + (1 : Int32)))]) X0 hx (v := (1 : Int32)) (hb hby own_d1_28) (q := 31) rfl rfl rfl rfl ?_
        rw [show ((3 : Int32) + (1 : Int32) : Int32) = (4 : Int32) from by decide]
        refine own_goto X0 hx (hb hby own_d1_31) (q := 6) (by decide) (by decide) ?_
        refine own_iloadN X0 hx (hb hby own_d1_6) (q := 7) rfl rfl ?_
        refine own_aloadN X0 hx (hb hby own_d1_7) (q := 8) rfl rfl rfl ?_
        refine own_alen X0 hx hZ (n := (4 : Int32)) e0 V0p rfl (hb hby own_d1_8) (q := 9) rfl ?_
        refine own_icmpM X0 hx (hb hby own_d1_9) (cd := .ge) (x := (4 : Int32)) (y := (4 : Int32)) (pt := 34) (q := 12) (by decide) (by decide) rfl rfl (fun _ => ?_) (fun h => False.elim (((by decide) : ¬ ((4 : Int32) < (4 : Int32))) h))
        refine own_iloadN X0 hx (hb hby own_d1_34) (q := 35) rfl rfl ?_
        refine own_retI X0 hx hlk Bd.returns (hb hby own_d1_35) ?_ (by decide) (by decide)
        have r : own_f1_4 u0 u1 u2 u3 t0 t1 t2 = u0 := by rw [own_f1_4, if_neg c2, if_neg c4, if_neg c6]
        exact ⟨by rw [r] <;> rfl, e0, rfl⟩
      · refine own_aloadN X0 hx (hb hby own_d1_24) (q := 25) rfl rfl rfl ?_
        refine own_iloadN X0 hx (hb hby own_d1_25) (q := 26) rfl rfl ?_
        refine own_iaload X0 hx hZ (i := 3) (v := .int u3) e0 V0p (by decide) (by decide) rfl (hb hby own_d1_26) (q := 27) rfl ?_
        refine own_istoreN (L' := #[.val (.ref a1), .val (.ref a2), .val (.int u3), .val (.int (3 : Int32))]) X0 hx (hb hby own_d1_27) (q := 28) rfl rfl ?_
        refine own_iinc (L' := #[.val (.ref a1), .val (.ref a2), .val (.int u3), .val (.int ((3 : Int32) + (1 : Int32)))]) X0 hx (v := (1 : Int32)) (hb hby own_d1_28) (q := 31) rfl rfl rfl rfl ?_
        rw [show ((3 : Int32) + (1 : Int32) : Int32) = (4 : Int32) from by decide]
        refine own_goto X0 hx (hb hby own_d1_31) (q := 6) (by decide) (by decide) ?_
        refine own_iloadN X0 hx (hb hby own_d1_6) (q := 7) rfl rfl ?_
        refine own_aloadN X0 hx (hb hby own_d1_7) (q := 8) rfl rfl rfl ?_
        refine own_alen X0 hx hZ (n := (4 : Int32)) e0 V0p rfl (hb hby own_d1_8) (q := 9) rfl ?_
        refine own_icmpM X0 hx (hb hby own_d1_9) (cd := .ge) (x := (4 : Int32)) (y := (4 : Int32)) (pt := 34) (q := 12) (by decide) (by decide) rfl rfl (fun _ => ?_) (fun h => False.elim (((by decide) : ¬ ((4 : Int32) < (4 : Int32))) h))
        refine own_iloadN X0 hx (hb hby own_d1_34) (q := 35) rfl rfl ?_
        refine own_retI X0 hx hlk Bd.returns (hb hby own_d1_35) ?_ (by decide) (by decide)
        have r : own_f1_4 u0 u1 u2 u3 t0 t1 t2 = u3 := by rw [own_f1_4, if_neg c2, if_neg c4, if_pos c6]
        exact ⟨by rw [r] <;> rfl, e0, rfl⟩
    · refine own_aloadN X0 hx (hb hby own_d1_24) (q := 25) rfl rfl rfl ?_
      refine own_iloadN X0 hx (hb hby own_d1_25) (q := 26) rfl rfl ?_
      refine own_iaload X0 hx hZ (i := 2) (v := .int u2) e0 V0p (by decide) (by decide) rfl (hb hby own_d1_26) (q := 27) rfl ?_
      refine own_istoreN (L' := #[.val (.ref a1), .val (.ref a2), .val (.int u2), .val (.int (2 : Int32))]) X0 hx (hb hby own_d1_27) (q := 28) rfl rfl ?_
      refine own_iinc (L' := #[.val (.ref a1), .val (.ref a2), .val (.int u2), .val (.int ((2 : Int32) + (1 : Int32)))]) X0 hx (v := (1 : Int32)) (hb hby own_d1_28) (q := 31) rfl rfl rfl rfl ?_
      rw [show ((2 : Int32) + (1 : Int32) : Int32) = (3 : Int32) from by decide]
      refine own_goto X0 hx (hb hby own_d1_31) (q := 6) (by decide) (by decide) ?_
      refine own_iloadN X0 hx (hb hby own_d1_6) (q := 7) rfl rfl ?_
      refine own_aloadN X0 hx (hb hby own_d1_7) (q := 8) rfl rfl rfl ?_
      refine own_alen X0 hx hZ (n := (4 : Int32)) e0 V0p rfl (hb hby own_d1_8) (q := 9) rfl ?_
      refine own_icmpM X0 hx (hb hby own_d1_9) (cd := .ge) (x := (3 : Int32)) (y := (4 : Int32)) (pt := 34) (q := 12) (by decide) (by decide) rfl rfl (fun h => False.elim (h ((by decide) : (3 : Int32) < (4 : Int32)))) (fun _ => ?_)
      refine own_aloadN X0 hx (hb hby own_d1_12) (q := 13) rfl rfl rfl ?_
      refine own_aloadN X0 hx (hb hby own_d1_13) (q := 14) rfl rfl rfl ?_
      refine own_iloadN X0 hx (hb hby own_d1_14) (q := 15) rfl rfl ?_
      refine own_iaload X0 hx hZ (i := 3) (v := .int u3) e0 V0p (by decide) (by decide) rfl (hb hby own_d1_15) (q := 16) rfl ?_
      refine own_laload X0 hx hZ (i := (u3).toNatClampNeg) (v := .long (own_sel t0 t1 t2 u3)) e0 V1p (own_selN P_u3) rfl (own_selV P_u3) (hb hby own_d1_16) (q := 17) rfl ?_
      refine own_aloadN X0 hx (hb hby own_d1_17) (q := 18) rfl rfl rfl ?_
      refine own_iloadN X0 hx (hb hby own_d1_18) (q := 19) rfl rfl ?_
      refine own_laload X0 hx hZ (i := (u2).toNatClampNeg) (v := .long (own_sel t0 t1 t2 u2)) e0 V1p (own_selN P_u2) rfl (own_selV P_u2) (hb hby own_d1_19) (q := 20) rfl ?_
      refine own_lcmp X0 hx (hb hby own_d1_20) (q := 21) rfl ?_
      refine own_ifLM X0 hx (hb hby own_d1_21) (cd := .ge) (x := own_sel t0 t1 t2 u3) (y := own_sel t0 t1 t2 u2) (pt := 28) (q := 24) (by decide) (by decide) rfl rfl (fun (c10 : ¬ ((own_sel t0 t1 t2 u3) < (own_sel t0 t1 t2 u2))) => ?_) (fun (c10 : (own_sel t0 t1 t2 u3) < (own_sel t0 t1 t2 u2)) => ?_)
      · refine own_iinc (L' := #[.val (.ref a1), .val (.ref a2), .val (.int u2), .val (.int ((3 : Int32) + (1 : Int32)))]) X0 hx (v := (1 : Int32)) (hb hby own_d1_28) (q := 31) rfl rfl rfl rfl ?_
        rw [show ((3 : Int32) + (1 : Int32) : Int32) = (4 : Int32) from by decide]
        refine own_goto X0 hx (hb hby own_d1_31) (q := 6) (by decide) (by decide) ?_
        refine own_iloadN X0 hx (hb hby own_d1_6) (q := 7) rfl rfl ?_
        refine own_aloadN X0 hx (hb hby own_d1_7) (q := 8) rfl rfl rfl ?_
        refine own_alen X0 hx hZ (n := (4 : Int32)) e0 V0p rfl (hb hby own_d1_8) (q := 9) rfl ?_
        refine own_icmpM X0 hx (hb hby own_d1_9) (cd := .ge) (x := (4 : Int32)) (y := (4 : Int32)) (pt := 34) (q := 12) (by decide) (by decide) rfl rfl (fun _ => ?_) (fun h => False.elim (((by decide) : ¬ ((4 : Int32) < (4 : Int32))) h))
        refine own_iloadN X0 hx (hb hby own_d1_34) (q := 35) rfl rfl ?_
        refine own_retI X0 hx hlk Bd.returns (hb hby own_d1_35) ?_ (by decide) (by decide)
        have r : own_f1_4 u0 u1 u2 u3 t0 t1 t2 = u2 := by rw [own_f1_4, if_neg c2, if_pos c4, if_neg c10]
        exact ⟨by rw [r] <;> rfl, e0, rfl⟩
      · refine own_aloadN X0 hx (hb hby own_d1_24) (q := 25) rfl rfl rfl ?_
        refine own_iloadN X0 hx (hb hby own_d1_25) (q := 26) rfl rfl ?_
        refine own_iaload X0 hx hZ (i := 3) (v := .int u3) e0 V0p (by decide) (by decide) rfl (hb hby own_d1_26) (q := 27) rfl ?_
        refine own_istoreN (L' := #[.val (.ref a1), .val (.ref a2), .val (.int u3), .val (.int (3 : Int32))]) X0 hx (hb hby own_d1_27) (q := 28) rfl rfl ?_
        refine own_iinc (L' := #[.val (.ref a1), .val (.ref a2), .val (.int u3), .val (.int ((3 : Int32) + (1 : Int32)))]) X0 hx (v := (1 : Int32)) (hb hby own_d1_28) (q := 31) rfl rfl rfl rfl ?_
        rw [show ((3 : Int32) + (1 : Int32) : Int32) = (4 : Int32) from by decide]
        refine own_goto X0 hx (hb hby own_d1_31) (q := 6) (by decide) (by decide) ?_
        refine own_iloadN X0 hx (hb hby own_d1_6) (q := 7) rfl rfl ?_
        refine own_aloadN X0 hx (hb hby own_d1_7) (q := 8) rfl rfl rfl ?_
        refine own_alen X0 hx hZ (n := (4 : Int32)) e0 V0p rfl (hb hby own_d1_8) (q := 9) rfl ?_
        refine own_icmpM X0 hx (hb hby own_d1_9) (cd := .ge) (x := (4 : Int32)) (y := (4 : Int32)) (pt := 34) (q := 12) (by decide) (by decide) rfl rfl (fun _ => ?_) (fun h => False.elim (((by decide) : ¬ ((4 : Int32) < (4 : Int32))) h))
        refine own_iloadN X0 hx (hb hby own_d1_34) (q := 35) rfl rfl ?_
        refine own_retI X0 hx hlk Bd.returns (hb hby own_d1_35) ?_ (by decide) (by decide)
        have r : own_f1_4 u0 u1 u2 u3 t0 t1 t2 = u3 := by rw [own_f1_4, if_neg c2, if_pos c4, if_pos c10]
        exact ⟨by rw [r] <;> rfl, e0, rfl⟩
  · refine own_aloadN X0 hx (hb hby own_d1_24) (q := 25) rfl rfl rfl ?_
    refine own_iloadN X0 hx (hb hby own_d1_25) (q := 26) rfl rfl ?_
    refine own_iaload X0 hx hZ (i := 1) (v := .int u1) e0 V0p (by decide) (by decide) rfl (hb hby own_d1_26) (q := 27) rfl ?_
    refine own_istoreN (L' := #[.val (.ref a1), .val (.ref a2), .val (.int u1), .val (.int (1 : Int32))]) X0 hx (hb hby own_d1_27) (q := 28) rfl rfl ?_
    refine own_iinc (L' := #[.val (.ref a1), .val (.ref a2), .val (.int u1), .val (.int ((1 : Int32) + (1 : Int32)))]) X0 hx (v := (1 : Int32)) (hb hby own_d1_28) (q := 31) rfl rfl rfl rfl ?_
    rw [show ((1 : Int32) + (1 : Int32) : Int32) = (2 : Int32) from by decide]
    refine own_goto X0 hx (hb hby own_d1_31) (q := 6) (by decide) (by decide) ?_
    refine own_iloadN X0 hx (hb hby own_d1_6) (q := 7) rfl rfl ?_
    refine own_aloadN X0 hx (hb hby own_d1_7) (q := 8) rfl rfl rfl ?_
    refine own_alen X0 hx hZ (n := (4 : Int32)) e0 V0p rfl (hb hby own_d1_8) (q := 9) rfl ?_
    refine own_icmpM X0 hx (hb hby own_d1_9) (cd := .ge) (x := (2 : Int32)) (y := (4 : Int32)) (pt := 34) (q := 12) (by decide) (by decide) rfl rfl (fun h => False.elim (h ((by decide) : (2 : Int32) < (4 : Int32)))) (fun _ => ?_)
    refine own_aloadN X0 hx (hb hby own_d1_12) (q := 13) rfl rfl rfl ?_
    refine own_aloadN X0 hx (hb hby own_d1_13) (q := 14) rfl rfl rfl ?_
    refine own_iloadN X0 hx (hb hby own_d1_14) (q := 15) rfl rfl ?_
    refine own_iaload X0 hx hZ (i := 2) (v := .int u2) e0 V0p (by decide) (by decide) rfl (hb hby own_d1_15) (q := 16) rfl ?_
    refine own_laload X0 hx hZ (i := (u2).toNatClampNeg) (v := .long (own_sel t0 t1 t2 u2)) e0 V1p (own_selN P_u2) rfl (own_selV P_u2) (hb hby own_d1_16) (q := 17) rfl ?_
    refine own_aloadN X0 hx (hb hby own_d1_17) (q := 18) rfl rfl rfl ?_
    refine own_iloadN X0 hx (hb hby own_d1_18) (q := 19) rfl rfl ?_
    refine own_laload X0 hx hZ (i := (u1).toNatClampNeg) (v := .long (own_sel t0 t1 t2 u1)) e0 V1p (own_selN P_u1) rfl (own_selV P_u1) (hb hby own_d1_19) (q := 20) rfl ?_
    refine own_lcmp X0 hx (hb hby own_d1_20) (q := 21) rfl ?_
    refine own_ifLM X0 hx (hb hby own_d1_21) (cd := .ge) (x := own_sel t0 t1 t2 u2) (y := own_sel t0 t1 t2 u1) (pt := 28) (q := 24) (by decide) (by decide) rfl rfl (fun (c14 : ¬ ((own_sel t0 t1 t2 u2) < (own_sel t0 t1 t2 u1))) => ?_) (fun (c14 : (own_sel t0 t1 t2 u2) < (own_sel t0 t1 t2 u1)) => ?_)
    · refine own_iinc (L' := #[.val (.ref a1), .val (.ref a2), .val (.int u1), .val (.int ((2 : Int32) + (1 : Int32)))]) X0 hx (v := (1 : Int32)) (hb hby own_d1_28) (q := 31) rfl rfl rfl rfl ?_
      rw [show ((2 : Int32) + (1 : Int32) : Int32) = (3 : Int32) from by decide]
      refine own_goto X0 hx (hb hby own_d1_31) (q := 6) (by decide) (by decide) ?_
      refine own_iloadN X0 hx (hb hby own_d1_6) (q := 7) rfl rfl ?_
      refine own_aloadN X0 hx (hb hby own_d1_7) (q := 8) rfl rfl rfl ?_
      refine own_alen X0 hx hZ (n := (4 : Int32)) e0 V0p rfl (hb hby own_d1_8) (q := 9) rfl ?_
      refine own_icmpM X0 hx (hb hby own_d1_9) (cd := .ge) (x := (3 : Int32)) (y := (4 : Int32)) (pt := 34) (q := 12) (by decide) (by decide) rfl rfl (fun h => False.elim (h ((by decide) : (3 : Int32) < (4 : Int32)))) (fun _ => ?_)
      refine own_aloadN X0 hx (hb hby own_d1_12) (q := 13) rfl rfl rfl ?_
      refine own_aloadN X0 hx (hb hby own_d1_13) (q := 14) rfl rfl rfl ?_
      refine own_iloadN X0 hx (hb hby own_d1_14) (q := 15) rfl rfl ?_
      refine own_iaload X0 hx hZ (i := 3) (v := .int u3) e0 V0p (by decide) (by decide) rfl (hb hby own_d1_15) (q := 16) rfl ?_
      refine own_laload X0 hx hZ (i := (u3).toNatClampNeg) (v := .long (own_sel t0 t1 t2 u3)) e0 V1p (own_selN P_u3) rfl (own_selV P_u3) (hb hby own_d1_16) (q := 17) rfl ?_
      refine own_aloadN X0 hx (hb hby own_d1_17) (q := 18) rfl rfl rfl ?_
      refine own_iloadN X0 hx (hb hby own_d1_18) (q := 19) rfl rfl ?_
      refine own_laload X0 hx hZ (i := (u1).toNatClampNeg) (v := .long (own_sel t0 t1 t2 u1)) e0 V1p (own_selN P_u1) rfl (own_selV P_u1) (hb hby own_d1_19) (q := 20) rfl ?_
      refine own_lcmp X0 hx (hb hby own_d1_20) (q := 21) rfl ?_
      refine own_ifLM X0 hx (hb hby own_d1_21) (cd := .ge) (x := own_sel t0 t1 t2 u3) (y := own_sel t0 t1 t2 u1) (pt := 28) (q := 24) (by decide) (by decide) rfl rfl (fun (c16 : ¬ ((own_sel t0 t1 t2 u3) < (own_sel t0 t1 t2 u1))) => ?_) (fun (c16 : (own_sel t0 t1 t2 u3) < (own_sel t0 t1 t2 u1)) => ?_)
      · refine own_iinc (L' := #[.val (.ref a1), .val (.ref a2), .val (.int u1), .val (.int ((3 : Int32) + (1 : Int32)))]) X0 hx (v := (1 : Int32)) (hb hby own_d1_28) (q := 31) rfl rfl rfl rfl ?_
        rw [show ((3 : Int32) + (1 : Int32) : Int32) = (4 : Int32) from by decide]
        refine own_goto X0 hx (hb hby own_d1_31) (q := 6) (by decide) (by decide) ?_
        refine own_iloadN X0 hx (hb hby own_d1_6) (q := 7) rfl rfl ?_
        refine own_aloadN X0 hx (hb hby own_d1_7) (q := 8) rfl rfl rfl ?_
        refine own_alen X0 hx hZ (n := (4 : Int32)) e0 V0p rfl (hb hby own_d1_8) (q := 9) rfl ?_
        refine own_icmpM X0 hx (hb hby own_d1_9) (cd := .ge) (x := (4 : Int32)) (y := (4 : Int32)) (pt := 34) (q := 12) (by decide) (by decide) rfl rfl (fun _ => ?_) (fun h => False.elim (((by decide) : ¬ ((4 : Int32) < (4 : Int32))) h))
        refine own_iloadN X0 hx (hb hby own_d1_34) (q := 35) rfl rfl ?_
        refine own_retI X0 hx hlk Bd.returns (hb hby own_d1_35) ?_ (by decide) (by decide)
        have r : own_f1_4 u0 u1 u2 u3 t0 t1 t2 = u1 := by rw [own_f1_4, if_pos c2, if_neg c14, if_neg c16]
        exact ⟨by rw [r] <;> rfl, e0, rfl⟩
      · refine own_aloadN X0 hx (hb hby own_d1_24) (q := 25) rfl rfl rfl ?_
        refine own_iloadN X0 hx (hb hby own_d1_25) (q := 26) rfl rfl ?_
        refine own_iaload X0 hx hZ (i := 3) (v := .int u3) e0 V0p (by decide) (by decide) rfl (hb hby own_d1_26) (q := 27) rfl ?_
        refine own_istoreN (L' := #[.val (.ref a1), .val (.ref a2), .val (.int u3), .val (.int (3 : Int32))]) X0 hx (hb hby own_d1_27) (q := 28) rfl rfl ?_
        refine own_iinc (L' := #[.val (.ref a1), .val (.ref a2), .val (.int u3), .val (.int ((3 : Int32) + (1 : Int32)))]) X0 hx (v := (1 : Int32)) (hb hby own_d1_28) (q := 31) rfl rfl rfl rfl ?_
        rw [show ((3 : Int32) + (1 : Int32) : Int32) = (4 : Int32) from by decide]
        refine own_goto X0 hx (hb hby own_d1_31) (q := 6) (by decide) (by decide) ?_
        refine own_iloadN X0 hx (hb hby own_d1_6) (q := 7) rfl rfl ?_
        refine own_aloadN X0 hx (hb hby own_d1_7) (q := 8) rfl rfl rfl ?_
        refine own_alen X0 hx hZ (n := (4 : Int32)) e0 V0p rfl (hb hby own_d1_8) (q := 9) rfl ?_
        refine own_icmpM X0 hx (hb hby own_d1_9) (cd := .ge) (x := (4 : Int32)) (y := (4 : Int32)) (pt := 34) (q := 12) (by decide) (by decide) rfl rfl (fun _ => ?_) (fun h => False.elim (((by decide) : ¬ ((4 : Int32) < (4 : Int32))) h))
        refine own_iloadN X0 hx (hb hby own_d1_34) (q := 35) rfl rfl ?_
        refine own_retI X0 hx hlk Bd.returns (hb hby own_d1_35) ?_ (by decide) (by decide)
        have r : own_f1_4 u0 u1 u2 u3 t0 t1 t2 = u3 := by rw [own_f1_4, if_pos c2, if_neg c14, if_pos c16]
        exact ⟨by rw [r] <;> rfl, e0, rfl⟩
    · refine own_aloadN X0 hx (hb hby own_d1_24) (q := 25) rfl rfl rfl ?_
      refine own_iloadN X0 hx (hb hby own_d1_25) (q := 26) rfl rfl ?_
      refine own_iaload X0 hx hZ (i := 2) (v := .int u2) e0 V0p (by decide) (by decide) rfl (hb hby own_d1_26) (q := 27) rfl ?_
      refine own_istoreN (L' := #[.val (.ref a1), .val (.ref a2), .val (.int u2), .val (.int (2 : Int32))]) X0 hx (hb hby own_d1_27) (q := 28) rfl rfl ?_
      refine own_iinc (L' := #[.val (.ref a1), .val (.ref a2), .val (.int u2), .val (.int ((2 : Int32) + (1 : Int32)))]) X0 hx (v := (1 : Int32)) (hb hby own_d1_28) (q := 31) rfl rfl rfl rfl ?_
      rw [show ((2 : Int32) + (1 : Int32) : Int32) = (3 : Int32) from by decide]
      refine own_goto X0 hx (hb hby own_d1_31) (q := 6) (by decide) (by decide) ?_
      refine own_iloadN X0 hx (hb hby own_d1_6) (q := 7) rfl rfl ?_
      refine own_aloadN X0 hx (hb hby own_d1_7) (q := 8) rfl rfl rfl ?_
      refine own_alen X0 hx hZ (n := (4 : Int32)) e0 V0p rfl (hb hby own_d1_8) (q := 9) rfl ?_
      refine own_icmpM X0 hx (hb hby own_d1_9) (cd := .ge) (x := (3 : Int32)) (y := (4 : Int32)) (pt := 34) (q := 12) (by decide) (by decide) rfl rfl (fun h => False.elim (h ((by decide) : (3 : Int32) < (4 : Int32)))) (fun _ => ?_)
      refine own_aloadN X0 hx (hb hby own_d1_12) (q := 13) rfl rfl rfl ?_
      refine own_aloadN X0 hx (hb hby own_d1_13) (q := 14) rfl rfl rfl ?_
      refine own_iloadN X0 hx (hb hby own_d1_14) (q := 15) rfl rfl ?_
      refine own_iaload X0 hx hZ (i := 3) (v := .int u3) e0 V0p (by decide) (by decide) rfl (hb hby own_d1_15) (q := 16) rfl ?_
      refine own_laload X0 hx hZ (i := (u3).toNatClampNeg) (v := .long (own_sel t0 t1 t2 u3)) e0 V1p (own_selN P_u3) rfl (own_selV P_u3) (hb hby own_d1_16) (q := 17) rfl ?_
      refine own_aloadN X0 hx (hb hby own_d1_17) (q := 18) rfl rfl rfl ?_
      refine own_iloadN X0 hx (hb hby own_d1_18) (q := 19) rfl rfl ?_
      refine own_laload X0 hx hZ (i := (u2).toNatClampNeg) (v := .long (own_sel t0 t1 t2 u2)) e0 V1p (own_selN P_u2) rfl (own_selV P_u2) (hb hby own_d1_19) (q := 20) rfl ?_
      refine own_lcmp X0 hx (hb hby own_d1_20) (q := 21) rfl ?_
      refine own_ifLM X0 hx (hb hby own_d1_21) (cd := .ge) (x := own_sel t0 t1 t2 u3) (y := own_sel t0 t1 t2 u2) (pt := 28) (q := 24) (by decide) (by decide) rfl rfl (fun (c20 : ¬ ((own_sel t0 t1 t2 u3) < (own_sel t0 t1 t2 u2))) => ?_) (fun (c20 : (own_sel t0 t1 t2 u3) < (own_sel t0 t1 t2 u2)) => ?_)
      · refine own_iinc (L' := #[.val (.ref a1), .val (.ref a2), .val (.int u2), .val (.int ((3 : Int32) + (1 : Int32)))]) X0 hx (v := (1 : Int32)) (hb hby own_d1_28) (q := 31) rfl rfl rfl rfl ?_
        rw [show ((3 : Int32) + (1 : Int32) : Int32) = (4 : Int32) from by decide]
        refine own_goto X0 hx (hb hby own_d1_31) (q := 6) (by decide) (by decide) ?_
        refine own_iloadN X0 hx (hb hby own_d1_6) (q := 7) rfl rfl ?_
        refine own_aloadN X0 hx (hb hby own_d1_7) (q := 8) rfl rfl rfl ?_
        refine own_alen X0 hx hZ (n := (4 : Int32)) e0 V0p rfl (hb hby own_d1_8) (q := 9) rfl ?_
        refine own_icmpM X0 hx (hb hby own_d1_9) (cd := .ge) (x := (4 : Int32)) (y := (4 : Int32)) (pt := 34) (q := 12) (by decide) (by decide) rfl rfl (fun _ => ?_) (fun h => False.elim (((by decide) : ¬ ((4 : Int32) < (4 : Int32))) h))
        refine own_iloadN X0 hx (hb hby own_d1_34) (q := 35) rfl rfl ?_
        refine own_retI X0 hx hlk Bd.returns (hb hby own_d1_35) ?_ (by decide) (by decide)
        have r : own_f1_4 u0 u1 u2 u3 t0 t1 t2 = u2 := by rw [own_f1_4, if_pos c2, if_pos c14, if_neg c20]
        exact ⟨by rw [r] <;> rfl, e0, rfl⟩
      · refine own_aloadN X0 hx (hb hby own_d1_24) (q := 25) rfl rfl rfl ?_
        refine own_iloadN X0 hx (hb hby own_d1_25) (q := 26) rfl rfl ?_
        refine own_iaload X0 hx hZ (i := 3) (v := .int u3) e0 V0p (by decide) (by decide) rfl (hb hby own_d1_26) (q := 27) rfl ?_
        refine own_istoreN (L' := #[.val (.ref a1), .val (.ref a2), .val (.int u3), .val (.int (3 : Int32))]) X0 hx (hb hby own_d1_27) (q := 28) rfl rfl ?_
        refine own_iinc (L' := #[.val (.ref a1), .val (.ref a2), .val (.int u3), .val (.int ((3 : Int32) + (1 : Int32)))]) X0 hx (v := (1 : Int32)) (hb hby own_d1_28) (q := 31) rfl rfl rfl rfl ?_
        rw [show ((3 : Int32) + (1 : Int32) : Int32) = (4 : Int32) from by decide]
        refine own_goto X0 hx (hb hby own_d1_31) (q := 6) (by decide) (by decide) ?_
        refine own_iloadN X0 hx (hb hby own_d1_6) (q := 7) rfl rfl ?_
        refine own_aloadN X0 hx (hb hby own_d1_7) (q := 8) rfl rfl rfl ?_
        refine own_alen X0 hx hZ (n := (4 : Int32)) e0 V0p rfl (hb hby own_d1_8) (q := 9) rfl ?_
        refine own_icmpM X0 hx (hb hby own_d1_9) (cd := .ge) (x := (4 : Int32)) (y := (4 : Int32)) (pt := 34) (q := 12) (by decide) (by decide) rfl rfl (fun _ => ?_) (fun h => False.elim (((by decide) : ¬ ((4 : Int32) < (4 : Int32))) h))
        refine own_iloadN X0 hx (hb hby own_d1_34) (q := 35) rfl rfl ?_
        refine own_retI X0 hx hlk Bd.returns (hb hby own_d1_35) ?_ (by decide) (by decide)
        have r : own_f1_4 u0 u1 u2 u3 t0 t1 t2 = u3 := by rw [own_f1_4, if_pos c2, if_pos c14, if_pos c20]
        exact ⟨by rw [r] <;> rfl, e0, rfl⟩
theorem own_pn2 : plainName "com/example/keys_across_workers/keysacrossworkers/routing/PartialKeyGroupingLeastSentPinLaw" = true := by first | (simp [plainName, overriddenIn]; done) | decide +kernel
theorem own_ef2 (m : MethodId) (p1 : Int32) (p2 : Int32) (p3 : Int32) (p4 : Int32) (a5 : Addr) (q6 : Int64) : entryFrame m #[.int p1, .int p2, .int p3, .int p4, .ref a5, .long q6] 9 = mkF m 0 #[.val (.int p1), .val (.int p2), .val (.int p3), .val (.int p4), .val (.ref a5), .val (.long q6), .second, .unset, .unset] [] := by first | (simp [entryFrame, mkF, argsToLocals, Value.category]; done) | rfl
theorem own_d2_0 : decode method_2_code 0 = .ok (.iload_n 0, 1) := by decide +kernel
theorem own_d2_1 : decode method_2_code 1 = .ok (.iload_n 1, 1) := by decide +kernel
theorem own_d2_2 : decode method_2_code 2 = .ok (.if_icmp .lt 5, 3) := by decide +kernel
theorem own_d2_5 : decode method_2_code 5 = .ok (.iconst 1, 1) := by decide +kernel
theorem own_d2_6 : decode method_2_code 6 = .ok (.ireturn, 1) := by decide +kernel
theorem own_d2_7 : decode method_2_code 7 = .ok (.aload 4, 2) := by decide +kernel
theorem own_d2_9 : decode method_2_code 9 = .ok (.iload_n 3, 1) := by decide +kernel
theorem own_d2_10 : decode method_2_code 10 = .ok (.laload, 1) := by decide +kernel
theorem own_d2_11 : decode method_2_code 11 = .ok (.lstore 7, 2) := by decide +kernel
theorem own_d2_13 : decode method_2_code 13 = .ok (.lload 7, 2) := by decide +kernel
theorem own_d2_15 : decode method_2_code 15 = .ok (.lload 5, 2) := by decide +kernel
theorem own_d2_17 : decode method_2_code 17 = .ok (.lcmp, 1) := by decide +kernel
theorem own_d2_18 : decode method_2_code 18 = .ok (.ifCond .lt 20, 3) := by decide +kernel
theorem own_d2_21 : decode method_2_code 21 = .ok (.iload_n 0, 1) := by decide +kernel
theorem own_d2_22 : decode method_2_code 22 = .ok (.iload_n 2, 1) := by decide +kernel
theorem own_d2_23 : decode method_2_code 23 = .ok (.if_icmp .ge 11, 3) := by decide +kernel
theorem own_d2_26 : decode method_2_code 26 = .ok (.lload 7, 2) := by decide +kernel
theorem own_d2_28 : decode method_2_code 28 = .ok (.lload 5, 2) := by decide +kernel
theorem own_d2_30 : decode method_2_code 30 = .ok (.lcmp, 1) := by decide +kernel
theorem own_d2_31 : decode method_2_code 31 = .ok (.ifCond .le 7, 3) := by decide +kernel
theorem own_d2_34 : decode method_2_code 34 = .ok (.iconst 1, 1) := by decide +kernel
theorem own_d2_35 : decode method_2_code 35 = .ok (.goto 4, 3) := by decide +kernel
theorem own_d2_38 : decode method_2_code 38 = .ok (.iconst 0, 1) := by decide +kernel
theorem own_d2_39 : decode method_2_code 39 = .ok (.ireturn, 1) := by decide +kernel
def own_f2 (p1 : Int32) (p2 : Int32) (p3 : Int32) (p4 : Int32) (q6 : Int64) (t0 : Int64) (t1 : Int64) (t2 : Int64) : Int32 := (if p1 < p2 then (if (own_sel t0 t1 t2 p4) < q6 then (0 : Int32) else (if p1 < p3 then (if q6 < (own_sel t0 t1 t2 p4) then (1 : Int32) else (0 : Int32)) else (1 : Int32))) else (1 : Int32))
set_option maxRecDepth 65536 in
set_option maxHeartbeats 40000000 in
theorem rm2 (l : Launch) (Z : State) (a0 : Array Value) (hw : ∀ d ∈ tables_1, d.before a0 Z = true) (ws : List Jvm.Cond) (p1 : Int32) (p2 : Int32) (p3 : Int32) (p4 : Int32) (a5 : Addr) (q6 : Int64) (t0 : Int64) (t1 : Int64) (t2 : Int64) (h0 : Heap) (V0p : own_A Z h0 a5 .long [.long t0, .long t1, .long t2]) (P : p4 = 0 ∨ p4 = 1 ∨ p4 = 2) :
    MetFree l (⟨"com/example/keys_across_workers/keysacrossworkers/routing/PartialKeyGroupingLeastSentPinLaw", "ok", "(IIII[JJ)Z"⟩ : MethodName) (head1 (Jvm.Cond.code (⟨"com/example/keys_across_workers/keysacrossworkers/routing/PartialKeyGroupingLeastSentPinLaw", "ok", "(IIII[JJ)Z"⟩ : MethodName) method_2_code 9 (some .boolean) :: ws) ({ frames := 0, cells := 0, slots := 0, locals := 0 } : Room)) (fun a U => a = #[.int p1, .int p2, .int p3, .int p4, .ref a5, .long q6] ∧ Z.Warmed39 U.vm ∧ U.heap = h0) (fun _ _ _ _ _ => True) (fun _ U o U' => ∃ v L, o = .returned v ∧ own_P (.int (own_f2 p1 p2 p3 p4 q6 t0 t1 t2)) h0 v U'.heap L ∧ FrameEnd U o U' L ({ frames := 0, cells := 0, slots := 0, locals := 0 } : Room).cells ({ frames := 0, cells := 0, slots := 0, locals := 0 } : Room).slots) := by
  refine MetFree.of_bodySF (plainFor_of_name own_pn2) hisR ?_
  intro p e s m args below meth c s₁ Bd hml0 hP hK
  obtain ⟨rfl, hZ, hh⟩ := hP
  have hx := Bd.exec
  have hby := Bd.bytes
  have hml : c.maxLocals = 9 := hml0
  have hown : s.vm.findClass "com/example/keys_across_workers/keysacrossworkers/routing/PartialKeyGroupingLeastSentPinLaw" = some m.cls := findClass_of_methodNamed Bd.named
  have hnm := (name_of_methodNamed Bd.named Bd.method).1
  have hlk : meth.locks = false := BodyLoose.notSynchronized Bd
  have X0 : Stand p l e ({ frames := 0, cells := 0, slots := 0, locals := 0 } : Room) s m #[.int p1, .int p2, .int p3, .int p4, .ref a5, .long q6] below meth c s₁ [] 0 0 := Stand.of_body Bd
  have e0 : s₁.heap = h0 := by rw [← hh, Bd.state]; rfl
  show own_Go p e below s 0 0 (own_P (.int (own_f2 p1 p2 p3 p4 q6 t0 t1 t2)) h0) (s₁.setTop (entryFrame m #[.int p1, .int p2, .int p3, .int p4, .ref a5, .long q6] 9))
  rw [own_ef2]
  refine own_iloadN X0 hx (hb hby own_d2_0) (q := 1) rfl rfl ?_
  refine own_iloadN X0 hx (hb hby own_d2_1) (q := 2) rfl rfl ?_
  refine own_icmpP X0 hx (hb hby own_d2_2) (cd := .lt) (x := p1) (y := p2) (pt := 7) (q := 5) (by decide) (by decide) rfl rfl (fun (c1 : p1 < p2) => ?_) (fun (c1 : ¬ (p1 < p2)) => ?_)
  · refine own_aload X0 hx (hb hby own_d2_7) (q := 9) rfl rfl rfl ?_
    refine own_iloadN X0 hx (hb hby own_d2_9) (q := 10) rfl rfl ?_
    refine own_laload X0 hx hZ (i := (p4).toNatClampNeg) (v := .long (own_sel t0 t1 t2 p4)) e0 V0p (own_selN P) rfl (own_selV P) (hb hby own_d2_10) (q := 11) rfl ?_
    refine own_lstore (L' := #[.val (.int p1), .val (.int p2), .val (.int p3), .val (.int p4), .val (.ref a5), .val (.long q6), .second, .val (.long (own_sel t0 t1 t2 p4)), .second]) X0 hx (hb hby own_d2_11) (q := 13) rfl rfl ?_
    refine own_lload X0 hx (hb hby own_d2_13) (q := 15) rfl rfl ?_
    refine own_lload X0 hx (hb hby own_d2_15) (q := 17) rfl rfl ?_
    refine own_lcmp X0 hx (hb hby own_d2_17) (q := 18) rfl ?_
    refine own_ifLP X0 hx (hb hby own_d2_18) (cd := .lt) (x := own_sel t0 t1 t2 p4) (y := q6) (pt := 38) (q := 21) (by decide) (by decide) rfl rfl (fun (c2 : (own_sel t0 t1 t2 p4) < q6) => ?_) (fun (c2 : ¬ ((own_sel t0 t1 t2 p4) < q6)) => ?_)
    · refine own_iconst X0 hx (v := (0 : Int32)) (hb hby own_d2_38) (q := 39) rfl rfl ?_
      refine own_retN X0 hx hlk (t := .boolean) (by simp) Bd.returns (hb hby own_d2_39) ?_ (by decide) (by decide)
      have r : own_f2 p1 p2 p3 p4 q6 t0 t1 t2 = (0 : Int32) := by rw [own_f2, if_pos c1, if_pos c2]
      exact ⟨by rw [r] <;> rfl, e0, rfl⟩
    · refine own_iloadN X0 hx (hb hby own_d2_21) (q := 22) rfl rfl ?_
      refine own_iloadN X0 hx (hb hby own_d2_22) (q := 23) rfl rfl ?_
      refine own_icmpM X0 hx (hb hby own_d2_23) (cd := .ge) (x := p1) (y := p3) (pt := 34) (q := 26) (by decide) (by decide) rfl rfl (fun (c3 : ¬ (p1 < p3)) => ?_) (fun (c3 : p1 < p3) => ?_)
      · refine own_iconst X0 hx (v := (1 : Int32)) (hb hby own_d2_34) (q := 35) rfl rfl ?_
        refine own_goto X0 hx (hb hby own_d2_35) (q := 39) (by decide) (by decide) ?_
        refine own_retN X0 hx hlk (t := .boolean) (by simp) Bd.returns (hb hby own_d2_39) ?_ (by decide) (by decide)
        have r : own_f2 p1 p2 p3 p4 q6 t0 t1 t2 = (1 : Int32) := by rw [own_f2, if_pos c1, if_neg c2, if_neg c3]
        exact ⟨by rw [r] <;> rfl, e0, rfl⟩
      · refine own_lload X0 hx (hb hby own_d2_26) (q := 28) rfl rfl ?_
        refine own_lload X0 hx (hb hby own_d2_28) (q := 30) rfl rfl ?_
        refine own_lcmp X0 hx (hb hby own_d2_30) (q := 31) rfl ?_
        refine own_ifLM X0 hx (hb hby own_d2_31) (cd := .le) (x := own_sel t0 t1 t2 p4) (y := q6) (pt := 38) (q := 34) (by decide) (by decide) rfl rfl (fun (c4 : ¬ (q6 < (own_sel t0 t1 t2 p4))) => ?_) (fun (c4 : q6 < (own_sel t0 t1 t2 p4)) => ?_)
        · refine own_iconst X0 hx (v := (0 : Int32)) (hb hby own_d2_38) (q := 39) rfl rfl ?_
          refine own_retN X0 hx hlk (t := .boolean) (by simp) Bd.returns (hb hby own_d2_39) ?_ (by decide) (by decide)
          have r : own_f2 p1 p2 p3 p4 q6 t0 t1 t2 = (0 : Int32) := by rw [own_f2, if_pos c1, if_neg c2, if_pos c3, if_neg c4]
          exact ⟨by rw [r] <;> rfl, e0, rfl⟩
        · refine own_iconst X0 hx (v := (1 : Int32)) (hb hby own_d2_34) (q := 35) rfl rfl ?_
          refine own_goto X0 hx (hb hby own_d2_35) (q := 39) (by decide) (by decide) ?_
          refine own_retN X0 hx hlk (t := .boolean) (by simp) Bd.returns (hb hby own_d2_39) ?_ (by decide) (by decide)
          have r : own_f2 p1 p2 p3 p4 q6 t0 t1 t2 = (1 : Int32) := by rw [own_f2, if_pos c1, if_neg c2, if_pos c3, if_pos c4]
          exact ⟨by rw [r] <;> rfl, e0, rfl⟩
  · refine own_iconst X0 hx (v := (1 : Int32)) (hb hby own_d2_5) (q := 6) rfl rfl ?_
    refine own_retN X0 hx hlk (t := .boolean) (by simp) Bd.returns (hb hby own_d2_6) ?_ (by decide) (by decide)
    have r : own_f2 p1 p2 p3 p4 q6 t0 t1 t2 = (1 : Int32) := by rw [own_f2, if_neg c1]
    exact ⟨by rw [r] <;> rfl, e0, rfl⟩
theorem own_r1 (l0 : Int32) (t0 t1 t2 : Int64) (h0 : l0 = 0 ∨ l0 = 1 ∨ l0 = 2) : (own_f1_1 l0 t0 t1 t2) = 0 ∨ (own_f1_1 l0 t0 t1 t2) = 1 ∨ (own_f1_1 l0 t0 t1 t2) = 2 := by
  unfold own_f1_1; repeat' split
  all_goals assumption
theorem own_r2 (l0 l1 : Int32) (t0 t1 t2 : Int64) (h0 : l0 = 0 ∨ l0 = 1 ∨ l0 = 2) (h1 : l1 = 0 ∨ l1 = 1 ∨ l1 = 2) : (own_f1_2 l0 l1 t0 t1 t2) = 0 ∨ (own_f1_2 l0 l1 t0 t1 t2) = 1 ∨ (own_f1_2 l0 l1 t0 t1 t2) = 2 := by
  unfold own_f1_2; repeat' split
  all_goals assumption
theorem own_r3 (l0 l1 l2 : Int32) (t0 t1 t2 : Int64) (h0 : l0 = 0 ∨ l0 = 1 ∨ l0 = 2) (h1 : l1 = 0 ∨ l1 = 1 ∨ l1 = 2) (h2 : l2 = 0 ∨ l2 = 1 ∨ l2 = 2) : (own_f1_3 l0 l1 l2 t0 t1 t2) = 0 ∨ (own_f1_3 l0 l1 l2 t0 t1 t2) = 1 ∨ (own_f1_3 l0 l1 l2 t0 t1 t2) = 2 := by
  unfold own_f1_3; repeat' split
  all_goals assumption
theorem own_r4 (l0 l1 l2 l3 : Int32) (t0 t1 t2 : Int64) (h0 : l0 = 0 ∨ l0 = 1 ∨ l0 = 2) (h1 : l1 = 0 ∨ l1 = 1 ∨ l1 = 2) (h2 : l2 = 0 ∨ l2 = 1 ∨ l2 = 2) (h3 : l3 = 0 ∨ l3 = 1 ∨ l3 = 2) : (own_f1_4 l0 l1 l2 l3 t0 t1 t2) = 0 ∨ (own_f1_4 l0 l1 l2 l3 t0 t1 t2) = 1 ∨ (own_f1_4 l0 l1 l2 l3 t0 t1 t2) = 2 := by
  unfold own_f1_4; repeat' split
  all_goals assumption
set_option maxHeartbeats 40000000 in
theorem own_fin1 (l0 r k : Int32) (t0 t1 t2 m : Int64) (hr : r = own_f1_1 l0 t0 t1 t2) (hm : m = own_sel t0 t1 t2 r) (hk : k = (if l0 = r then (0 : Int32) else (1 : Int32))) : ¬ (k = (1 : Int32)) ∧ ¬ own_f2 (0 : Int32) (1 : Int32) k l0 m t0 t1 t2 = 0 := by

  have key : (r = l0 ∧ m = own_sel t0 t1 t2 l0) := by
    unfold own_f1_1 at hr
    try simp only [Int64.lt_iff_toInt_lt] at *
    repeat' (split at hr)
    all_goals (subst hr; subst hm; first | omega | (simp only [true_and, and_self]; done) | (simp only [true_and, and_self]; omega))
  clear hr hm
  have g : ∀ i li : Int32, own_f2 i 1 k li m t0 t1 t2 = 0 → i < 1 ∧ (own_sel t0 t1 t2 li < m ∨ (i < k ∧ ¬ m < own_sel t0 t1 t2 li)) := fun i li h => by
    unfold own_f2 at h
    repeat' split at h
    all_goals first | exact absurd h (by decide) | exact ⟨by assumption, Or.inl (by assumption)⟩ | exact ⟨by assumption, Or.inr ⟨by assumption, by assumption⟩⟩
  have kk : (k = 0 ∧ l0 = r) ∨ (k = 1 ∧ ¬ l0 = r) := by
    subst hk
    repeat' split
    all_goals first | exact Or.inl ⟨rfl, by assumption⟩ | exact Or.inr (⟨rfl, by assumption⟩)
  clear hk
  refine ⟨fun h => ?_, fun h => ?_⟩
  all_goals first | have h := g _ _ h | skip
  all_goals clear g
  all_goals simp only [Int32.lt_iff_toInt_lt, Int64.lt_iff_toInt_lt, ← Int32.toInt_inj, ← Int64.toInt_inj, Int32.reduceToInt] at *
  all_goals generalize (own_sel t0 t1 t2 l0).toInt = v0 at *
  all_goals omega
set_option maxHeartbeats 40000000 in
theorem own_fin2 (l0 l1 r k : Int32) (t0 t1 t2 m : Int64) (hr : r = own_f1_2 l0 l1 t0 t1 t2) (hm : m = own_sel t0 t1 t2 r) (hk : k = (if l0 = r then (0 : Int32) else (if l1 = r then (1 : Int32) else (2 : Int32)))) : ¬ (k = (2 : Int32)) ∧ ¬ own_f2 (0 : Int32) (2 : Int32) k l0 m t0 t1 t2 = 0 ∧ ¬ own_f2 (1 : Int32) (2 : Int32) k l1 m t0 t1 t2 = 0 := by
  have d01 : l0 = l1 → own_sel t0 t1 t2 l0 = own_sel t0 t1 t2 l1 := fun h => by rw [h]
  have key : (r = l0 ∧ m = own_sel t0 t1 t2 l0 ∧ ¬ own_sel t0 t1 t2 l1 < m) ∨ (r = l1 ∧ m = own_sel t0 t1 t2 l1 ∧ m < own_sel t0 t1 t2 l0) := by
    unfold own_f1_2 at hr
    try simp only [Int64.lt_iff_toInt_lt] at *
    repeat' (split at hr)
    all_goals (subst hr; subst hm; first | omega | (simp only [true_and, and_self]; done) | (simp only [true_and, and_self]; omega))
  clear hr hm
  have g : ∀ i li : Int32, own_f2 i 2 k li m t0 t1 t2 = 0 → i < 2 ∧ (own_sel t0 t1 t2 li < m ∨ (i < k ∧ ¬ m < own_sel t0 t1 t2 li)) := fun i li h => by
    unfold own_f2 at h
    repeat' split at h
    all_goals first | exact absurd h (by decide) | exact ⟨by assumption, Or.inl (by assumption)⟩ | exact ⟨by assumption, Or.inr ⟨by assumption, by assumption⟩⟩
  have kk : (k = 0 ∧ l0 = r) ∨ (k = 1 ∧ ¬ l0 = r ∧ l1 = r) ∨ (k = 2 ∧ ¬ l0 = r ∧ ¬ l1 = r) := by
    subst hk
    repeat' split
    all_goals first | exact Or.inl ⟨rfl, by assumption⟩ | exact Or.inr (Or.inl ⟨rfl, by assumption, by assumption⟩) | exact Or.inr (Or.inr (⟨rfl, by assumption, by assumption⟩))
  clear hk
  refine ⟨fun h => ?_, fun h => ?_, fun h => ?_⟩
  all_goals first | have h := g _ _ h | skip
  all_goals clear g
  all_goals simp only [Int32.lt_iff_toInt_lt, Int64.lt_iff_toInt_lt, ← Int32.toInt_inj, ← Int64.toInt_inj, Int32.reduceToInt] at *
  all_goals generalize (own_sel t0 t1 t2 l0).toInt = v0 at *
  all_goals generalize (own_sel t0 t1 t2 l1).toInt = v1 at *
  all_goals omega
set_option maxHeartbeats 40000000 in
theorem own_fin3 (l0 l1 l2 r k : Int32) (t0 t1 t2 m : Int64) (hr : r = own_f1_3 l0 l1 l2 t0 t1 t2) (hm : m = own_sel t0 t1 t2 r) (hk : k = (if l0 = r then (0 : Int32) else (if l1 = r then (1 : Int32) else (if l2 = r then (2 : Int32) else (3 : Int32))))) : ¬ (k = (3 : Int32)) ∧ ¬ own_f2 (0 : Int32) (3 : Int32) k l0 m t0 t1 t2 = 0 ∧ ¬ own_f2 (1 : Int32) (3 : Int32) k l1 m t0 t1 t2 = 0 ∧ ¬ own_f2 (2 : Int32) (3 : Int32) k l2 m t0 t1 t2 = 0 := by
  have d01 : l0 = l1 → own_sel t0 t1 t2 l0 = own_sel t0 t1 t2 l1 := fun h => by rw [h]
  have d02 : l0 = l2 → own_sel t0 t1 t2 l0 = own_sel t0 t1 t2 l2 := fun h => by rw [h]
  have d12 : l1 = l2 → own_sel t0 t1 t2 l1 = own_sel t0 t1 t2 l2 := fun h => by rw [h]
  have key : (r = l0 ∧ m = own_sel t0 t1 t2 l0 ∧ ¬ own_sel t0 t1 t2 l1 < m ∧ ¬ own_sel t0 t1 t2 l2 < m) ∨ (r = l1 ∧ m = own_sel t0 t1 t2 l1 ∧ m < own_sel t0 t1 t2 l0 ∧ ¬ own_sel t0 t1 t2 l2 < m) ∨ (r = l2 ∧ m = own_sel t0 t1 t2 l2 ∧ m < own_sel t0 t1 t2 l0 ∧ m < own_sel t0 t1 t2 l1) := by
    unfold own_f1_3 at hr
    try simp only [Int64.lt_iff_toInt_lt] at *
    repeat' (split at hr)
    all_goals (subst hr; subst hm; first | omega | (simp only [true_and, and_self]; done) | (simp only [true_and, and_self]; omega))
  clear hr hm
  have g : ∀ i li : Int32, own_f2 i 3 k li m t0 t1 t2 = 0 → i < 3 ∧ (own_sel t0 t1 t2 li < m ∨ (i < k ∧ ¬ m < own_sel t0 t1 t2 li)) := fun i li h => by
    unfold own_f2 at h
    repeat' split at h
    all_goals first | exact absurd h (by decide) | exact ⟨by assumption, Or.inl (by assumption)⟩ | exact ⟨by assumption, Or.inr ⟨by assumption, by assumption⟩⟩
  have kk : (k = 0 ∧ l0 = r) ∨ (k = 1 ∧ ¬ l0 = r ∧ l1 = r) ∨ (k = 2 ∧ ¬ l0 = r ∧ ¬ l1 = r ∧ l2 = r) ∨ (k = 3 ∧ ¬ l0 = r ∧ ¬ l1 = r ∧ ¬ l2 = r) := by
    subst hk
    repeat' split
    all_goals first | exact Or.inl ⟨rfl, by assumption⟩ | exact Or.inr (Or.inl ⟨rfl, by assumption, by assumption⟩) | exact Or.inr (Or.inr (Or.inl ⟨rfl, by assumption, by assumption, by assumption⟩)) | exact Or.inr (Or.inr (Or.inr (⟨rfl, by assumption, by assumption, by assumption⟩)))
  clear hk
  refine ⟨fun h => ?_, fun h => ?_, fun h => ?_, fun h => ?_⟩
  all_goals first | have h := g _ _ h | skip
  all_goals clear g
  all_goals simp only [Int32.lt_iff_toInt_lt, Int64.lt_iff_toInt_lt, ← Int32.toInt_inj, ← Int64.toInt_inj, Int32.reduceToInt] at *
  all_goals generalize (own_sel t0 t1 t2 l0).toInt = v0 at *
  all_goals generalize (own_sel t0 t1 t2 l1).toInt = v1 at *
  all_goals generalize (own_sel t0 t1 t2 l2).toInt = v2 at *
  all_goals omega
set_option maxHeartbeats 40000000 in
theorem own_fin4 (l0 l1 l2 l3 r k : Int32) (t0 t1 t2 m : Int64) (hr : r = own_f1_4 l0 l1 l2 l3 t0 t1 t2) (hm : m = own_sel t0 t1 t2 r) (hk : k = (if l0 = r then (0 : Int32) else (if l1 = r then (1 : Int32) else (if l2 = r then (2 : Int32) else (if l3 = r then (3 : Int32) else (4 : Int32)))))) : ¬ (k = (4 : Int32)) ∧ ¬ own_f2 (0 : Int32) (4 : Int32) k l0 m t0 t1 t2 = 0 ∧ ¬ own_f2 (1 : Int32) (4 : Int32) k l1 m t0 t1 t2 = 0 ∧ ¬ own_f2 (2 : Int32) (4 : Int32) k l2 m t0 t1 t2 = 0 ∧ ¬ own_f2 (3 : Int32) (4 : Int32) k l3 m t0 t1 t2 = 0 := by
  have d01 : l0 = l1 → own_sel t0 t1 t2 l0 = own_sel t0 t1 t2 l1 := fun h => by rw [h]
  have d02 : l0 = l2 → own_sel t0 t1 t2 l0 = own_sel t0 t1 t2 l2 := fun h => by rw [h]
  have d03 : l0 = l3 → own_sel t0 t1 t2 l0 = own_sel t0 t1 t2 l3 := fun h => by rw [h]
  have d12 : l1 = l2 → own_sel t0 t1 t2 l1 = own_sel t0 t1 t2 l2 := fun h => by rw [h]
  have d13 : l1 = l3 → own_sel t0 t1 t2 l1 = own_sel t0 t1 t2 l3 := fun h => by rw [h]
  have d23 : l2 = l3 → own_sel t0 t1 t2 l2 = own_sel t0 t1 t2 l3 := fun h => by rw [h]
  have key : (r = l0 ∧ m = own_sel t0 t1 t2 l0 ∧ ¬ own_sel t0 t1 t2 l1 < m ∧ ¬ own_sel t0 t1 t2 l2 < m ∧ ¬ own_sel t0 t1 t2 l3 < m) ∨ (r = l1 ∧ m = own_sel t0 t1 t2 l1 ∧ m < own_sel t0 t1 t2 l0 ∧ ¬ own_sel t0 t1 t2 l2 < m ∧ ¬ own_sel t0 t1 t2 l3 < m) ∨ (r = l2 ∧ m = own_sel t0 t1 t2 l2 ∧ m < own_sel t0 t1 t2 l0 ∧ m < own_sel t0 t1 t2 l1 ∧ ¬ own_sel t0 t1 t2 l3 < m) ∨ (r = l3 ∧ m = own_sel t0 t1 t2 l3 ∧ m < own_sel t0 t1 t2 l0 ∧ m < own_sel t0 t1 t2 l1 ∧ m < own_sel t0 t1 t2 l2) := by
    unfold own_f1_4 at hr
    try simp only [Int64.lt_iff_toInt_lt] at *
    repeat' (split at hr)
    all_goals (subst hr; subst hm; first | omega | (simp only [true_and, and_self]; done) | (simp only [true_and, and_self]; omega))
  clear hr hm
  have g : ∀ i li : Int32, own_f2 i 4 k li m t0 t1 t2 = 0 → i < 4 ∧ (own_sel t0 t1 t2 li < m ∨ (i < k ∧ ¬ m < own_sel t0 t1 t2 li)) := fun i li h => by
    unfold own_f2 at h
    repeat' split at h
    all_goals first | exact absurd h (by decide) | exact ⟨by assumption, Or.inl (by assumption)⟩ | exact ⟨by assumption, Or.inr ⟨by assumption, by assumption⟩⟩
  have kk : (k = 0 ∧ l0 = r) ∨ (k = 1 ∧ ¬ l0 = r ∧ l1 = r) ∨ (k = 2 ∧ ¬ l0 = r ∧ ¬ l1 = r ∧ l2 = r) ∨ (k = 3 ∧ ¬ l0 = r ∧ ¬ l1 = r ∧ ¬ l2 = r ∧ l3 = r) ∨ (k = 4 ∧ ¬ l0 = r ∧ ¬ l1 = r ∧ ¬ l2 = r ∧ ¬ l3 = r) := by
    subst hk
    repeat' split
    all_goals first | exact Or.inl ⟨rfl, by assumption⟩ | exact Or.inr (Or.inl ⟨rfl, by assumption, by assumption⟩) | exact Or.inr (Or.inr (Or.inl ⟨rfl, by assumption, by assumption, by assumption⟩)) | exact Or.inr (Or.inr (Or.inr (Or.inl ⟨rfl, by assumption, by assumption, by assumption, by assumption⟩))) | exact Or.inr (Or.inr (Or.inr (Or.inr (⟨rfl, by assumption, by assumption, by assumption, by assumption⟩))))
  clear hk
  refine ⟨fun h => ?_, fun h => ?_, fun h => ?_, fun h => ?_, fun h => ?_⟩
  all_goals first | have h := g _ _ h | skip
  all_goals clear g
  all_goals simp only [Int32.lt_iff_toInt_lt, Int64.lt_iff_toInt_lt, ← Int32.toInt_inj, ← Int64.toInt_inj, Int32.reduceToInt] at *
  all_goals generalize (own_sel t0 t1 t2 l0).toInt = v0 at *
  all_goals generalize (own_sel t0 t1 t2 l1).toInt = v1 at *
  all_goals generalize (own_sel t0 t1 t2 l2).toInt = v2 at *
  all_goals generalize (own_sel t0 t1 t2 l3).toInt = v3 at *
  all_goals omega
theorem own_pd0 : parseMethodDescriptor "([I[J)I" = some ⟨[(.array .int), (.array .long)], some .int⟩ := by decide +kernel
theorem own_pd1 : parseMethodDescriptor "(IIII[JJ)Z" = some ⟨[.int, .int, .int, .int, (.array .long), .long], some .boolean⟩ := by decide +kernel
theorem own_ef0 (m : MethodId) (q1 : Int64) (q2 : Int64) (q3 : Int64) (p4 : Int32) (p5 : Int32) : entryFrame m #[.long q1, .long q2, .long q3, .int p4, .int p5] maxLocals = mkF m 0 #[.val (.long q1), .second, .val (.long q2), .second, .val (.long q3), .second, .val (.int p4), .val (.int p5), .unset, .unset, .unset, .unset, .unset, .unset, .unset, .unset, .unset, .unset, .unset, .unset, .unset, .unset, .unset, .unset, .unset, .unset] [] := by first | (simp [entryFrame, mkF, argsToLocals, Value.category, maxLocals]; done) | rfl
def own_Q0 (n0 : Nat) (v : Option Value) (h : Heap) (L : List Loc) : Prop := v = some (.int 1) ∧ Fr n0 L
set_option maxRecDepth 65536 in
set_option maxHeartbeats 40000000 in
theorem rm0 (l : Launch) (Z : State) (a0 : Array Value) (hw : ∀ d ∈ tables_1, d.before a0 Z = true) (ws : List Jvm.Cond) (q1 : Int64) (q2 : Int64) (q3 : Int64) (p4 : Int32) (p5 : Int32) (h0 : Heap) (n0 : Nat) (Z0 : n0 ≤ h0.size) :
    MetFree l x (head1 (Jvm.Cond.code x code maxLocals ret :: ws) room_1) (fun a U => a = #[.long q1, .long q2, .long q3, .int p4, .int p5] ∧ Z.Warmed39 U.vm ∧ U.heap = h0) (fun _ _ _ _ _ => True) (fun _ U o U' => ∃ v L, o = .returned v ∧ own_Q0 n0 v U'.heap L ∧ FrameEnd U o U' L 16 128) := by
  refine MetFree.of_bodySF (plainFor_of_name own_pn2) hisR ?_
  intro p e s m args below meth c s₁ Bd hml0 hP hK
  obtain ⟨rfl, hZ, hh⟩ := hP
  have hx := Bd.exec
  have hby := Bd.bytes
  have hml : c.maxLocals = 26 := hml0
  have hown : s.vm.findClass "com/example/keys_across_workers/keysacrossworkers/routing/PartialKeyGroupingLeastSentPinLaw" = some m.cls := findClass_of_methodNamed Bd.named
  have hnm := (name_of_methodNamed Bd.named Bd.method).1
  have hlk : meth.locks = false := BodyLoose.notSynchronized Bd
  have X0 : Stand p l e room_1 s m #[.long q1, .long q2, .long q3, .int p4, .int p5] below meth c s₁ [] 0 0 := Stand.of_body Bd
  have e0 : s₁.heap = h0 := by rw [← hh, Bd.state]; rfl
  have N0 := Fr.nil n0
  show own_Go p e below s 16 128 (own_Q0 n0) (s₁.setTop (entryFrame m #[.long q1, .long q2, .long q3, .int p4, .int p5] maxLocals))
  rw [own_ef0]
  refine own_iconst X0 hx (v := (1 : Int32)) (hb hby at_0) (q := 1) rfl rfl ?_
  refine own_iload X0 hx (hb hby at_1) (q := 3) rfl rfl ?_
  refine own_iconst X0 hx (v := (3 : Int32)) (hb hby at_3) (q := 4) rfl rfl ?_
  refine own_iand X0 hx (hb hby at_4) (q := 5) rfl ?_
  refine own_iadd X0 hx (hb hby at_5) (q := 6) rfl ?_
  refine own_istore (L' := #[.val (.long q1), .second, .val (.long q2), .second, .val (.long q3), .second, .val (.int p4), .val (.int p5), .val (.int ((1 : Int32) + (p4 &&& (3 : Int32)))), .unset, .unset, .unset, .unset, .unset, .unset, .unset, .unset, .unset, .unset, .unset, .unset, .unset, .unset, .unset, .unset, .unset]) X0 hx (hb hby at_6) (q := 8) rfl rfl ?_
  refine own_iload X0 hx (hb hby at_8) (q := 10) rfl rfl ?_
  refine own_iconst X0 hx (v := (2 : Int32)) (hb hby at_10) (q := 11) rfl rfl ?_
  refine own_iushr X0 hx (hb hby at_11) (q := 12) rfl ?_
  refine own_istore (L' := #[.val (.long q1), .second, .val (.long q2), .second, .val (.long q3), .second, .val (.int p4), .val (.int p5), .val (.int ((1 : Int32) + (p4 &&& (3 : Int32)))), .val (.int (XT.ushr p4 (2 : Int32))), .unset, .unset, .unset, .unset, .unset, .unset, .unset, .unset, .unset, .unset, .unset, .unset, .unset, .unset, .unset, .unset]) X0 hx (hb hby at_12) (q := 14) rfl rfl ?_
  refine own_lloadN X0 hx (hb hby at_14) (q := 15) rfl rfl ?_
  refine own_lstore (L' := #[.val (.long q1), .second, .val (.long q2), .second, .val (.long q3), .second, .val (.int p4), .val (.int p5), .val (.int ((1 : Int32) + (p4 &&& (3 : Int32)))), .val (.int (XT.ushr p4 (2 : Int32))), .val (.long q1), .second, .unset, .unset, .unset, .unset, .unset, .unset, .unset, .unset, .unset, .unset, .unset, .unset, .unset, .unset]) X0 hx (hb hby at_15) (q := 17) rfl rfl ?_
  refine own_iload X0 hx (hb hby at_17) (q := 19) rfl rfl ?_
  refine own_iconst X0 hx (v := (1 : Int32)) (hb hby at_19) (q := 20) rfl rfl ?_
  refine own_iand X0 hx (hb hby at_20) (q := 21) rfl ?_
  have J2 : ∀ (z1 : Int64), z1 = (if ((XT.ushr p4 (2 : Int32)) &&& (1 : Int32)) = (0 : Int32) then q2 else q1) → own_Go p e below s 16 128 (own_Q0 n0) (s₁.setTop (mkF m 30 #[.val (.long q1), .second, .val (.long q2), .second, .val (.long q3), .second, .val (.int p4), .val (.int p5), .val (.int ((1 : Int32) + (p4 &&& (3 : Int32)))), .val (.int (XT.ushr p4 (2 : Int32))), .val (.long q1), .second, .unset, .unset, .unset, .unset, .unset, .unset, .unset, .unset, .unset, .unset, .unset, .unset, .unset, .unset] [.long z1])) := by
    intro z1 hz7
    refine own_lstore (L' := #[.val (.long q1), .second, .val (.long q2), .second, .val (.long q3), .second, .val (.int p4), .val (.int p5), .val (.int ((1 : Int32) + (p4 &&& (3 : Int32)))), .val (.int (XT.ushr p4 (2 : Int32))), .val (.long q1), .second, .val (.long z1), .second, .unset, .unset, .unset, .unset, .unset, .unset, .unset, .unset, .unset, .unset, .unset, .unset]) X0 hx (hb hby at_30) (q := 32) rfl rfl ?_
    refine own_iload X0 hx (hb hby at_32) (q := 34) rfl rfl ?_
    refine own_iconst X0 hx (v := (2 : Int32)) (hb hby at_34) (q := 35) rfl rfl ?_
    refine own_iand X0 hx (hb hby at_35) (q := 36) rfl ?_
    have J9 : ∀ (z8 : Int64), z8 = (if ((XT.ushr p4 (2 : Int32)) &&& (2 : Int32)) = (0 : Int32) then q3 else z1) → own_Go p e below s 16 128 (own_Q0 n0) (s₁.setTop (mkF m 46 #[.val (.long q1), .second, .val (.long q2), .second, .val (.long q3), .second, .val (.int p4), .val (.int p5), .val (.int ((1 : Int32) + (p4 &&& (3 : Int32)))), .val (.int (XT.ushr p4 (2 : Int32))), .val (.long q1), .second, .val (.long z1), .second, .unset, .unset, .unset, .unset, .unset, .unset, .unset, .unset, .unset, .unset, .unset, .unset] [.long z8])) := by
      intro z8 hz14
      refine own_lstore (L' := #[.val (.long q1), .second, .val (.long q2), .second, .val (.long q3), .second, .val (.int p4), .val (.int p5), .val (.int ((1 : Int32) + (p4 &&& (3 : Int32)))), .val (.int (XT.ushr p4 (2 : Int32))), .val (.long q1), .second, .val (.long z1), .second, .val (.long z8), .second, .unset, .unset, .unset, .unset, .unset, .unset, .unset, .unset, .unset, .unset]) X0 hx (hb hby at_46) (q := 48) rfl rfl ?_
      refine own_iconst X0 hx (v := (3 : Int32)) (hb hby at_48) (q := 49) rfl rfl ?_
      refine own_newA X0 hx hZ (aty := .long) (ty := .long) (k := 3) (cap := 3) rfl (hw _ (List.mem_of_getElem? (i := 0) rfl)) e0 (by decide) (by decide) (by decide) (by decide) (by decide) (by decide) (hb hby at_49) (q := 51) rfl (fun T15 h18 a19 X16 e17 g20 E21 A22 => ?_)
      have Z23 : n0 ≤ a19 := by rw [g20]; exact Z0
      have Z24 : n0 ≤ h18.size := Nat.le_trans Z0 E21.1
      replace A22 : own_A Z h18 a19 .long [.long (0 : Int64), .long (0 : Int64), .long (0 : Int64)] := A22
      refine own_dup X16 hx (hb hby at_51) (q := 52) rfl rfl ?_
      refine own_iconst X16 hx (v := (0 : Int32)) (hb hby at_52) (q := 53) rfl rfl ?_
      refine own_lload X16 hx (hb hby at_53) (q := 55) rfl rfl ?_
      refine own_lastore X16 hx hZ (i := 0) e17 A22 (by decide) (by decide) (Nat.le_of_ble_eq_true rfl) (hb hby at_55) (q := 56) rfl (fun T25 h28 X26 e27 W29 A30 => ?_)
      replace A30 : own_A Z h28 a19 .long [.long q1, .long (0 : Int64), .long (0 : Int64)] := A30
      have Z31 : n0 ≤ h28.size := W29.size ▸ Z24
      have N32 := Fr.snoc X26 N0 Z23
      refine own_dup X26 hx (hb hby at_56) (q := 57) rfl rfl ?_
      refine own_iconst X26 hx (v := (1 : Int32)) (hb hby at_57) (q := 58) rfl rfl ?_
      refine own_lload X26 hx (hb hby at_58) (q := 60) rfl rfl ?_
      refine own_lastore X26 hx hZ (i := 1) e27 A30 (by decide) (by decide) (Nat.le_of_ble_eq_true rfl) (hb hby at_60) (q := 61) rfl (fun T33 h36 X34 e35 W37 A38 => ?_)
      replace A38 : own_A Z h36 a19 .long [.long q1, .long z1, .long (0 : Int64)] := A38
      have Z39 : n0 ≤ h36.size := W37.size ▸ Z31
      have N40 := Fr.snoc X34 N32 Z23
      refine own_dup X34 hx (hb hby at_61) (q := 62) rfl rfl ?_
      refine own_iconst X34 hx (v := (2 : Int32)) (hb hby at_62) (q := 63) rfl rfl ?_
      refine own_lload X34 hx (hb hby at_63) (q := 65) rfl rfl ?_
      refine own_lastore X34 hx hZ (i := 2) e35 A38 (by decide) (by decide) (Nat.le_of_ble_eq_true rfl) (hb hby at_65) (q := 66) rfl (fun T41 h44 X42 e43 W45 A46 => ?_)
      replace A46 : own_A Z h44 a19 .long [.long q1, .long z1, .long z8] := A46
      have Z47 : n0 ≤ h44.size := W45.size ▸ Z39
      have N48 := Fr.snoc X42 N40 Z23
      refine own_astore (L' := #[.val (.long q1), .second, .val (.long q2), .second, .val (.long q3), .second, .val (.int p4), .val (.int p5), .val (.int ((1 : Int32) + (p4 &&& (3 : Int32)))), .val (.int (XT.ushr p4 (2 : Int32))), .val (.long q1), .second, .val (.long z1), .second, .val (.long z8), .second, .val (.ref a19), .unset, .unset, .unset, .unset, .unset, .unset, .unset, .unset, .unset]) X42 hx (hb hby at_66) (q := 68) rfl rfl rfl ?_
      refine own_iload X42 hx (hb hby at_68) (q := 70) rfl rfl ?_
      refine own_iconst X42 hx (v := (3 : Int32)) (hb hby at_70) (q := 71) rfl rfl ?_
      refine own_iand X42 hx (hb hby at_71) (q := 72) rfl ?_
      refine own_iconst X42 hx (v := (3 : Int32)) (hb hby at_72) (q := 73) rfl rfl ?_
      refine own_irem X42 hx (hb hby at_73) (q := 74) rfl (by decide) ?_
      refine own_istore (L' := #[.val (.long q1), .second, .val (.long q2), .second, .val (.long q3), .second, .val (.int p4), .val (.int p5), .val (.int ((1 : Int32) + (p4 &&& (3 : Int32)))), .val (.int (XT.ushr p4 (2 : Int32))), .val (.long q1), .second, .val (.long z1), .second, .val (.long z8), .second, .val (.ref a19), .val (.int ((p5 &&& (3 : Int32)) % (3 : Int32))), .unset, .unset, .unset, .unset, .unset, .unset, .unset, .unset]) X42 hx (hb hby at_74) (q := 76) rfl rfl ?_
      refine own_iload X42 hx (hb hby at_76) (q := 78) rfl rfl ?_
      refine own_iconst X42 hx (v := (2 : Int32)) (hb hby at_78) (q := 79) rfl rfl ?_
      refine own_iushr X42 hx (hb hby at_79) (q := 80) rfl ?_
      refine own_iconst X42 hx (v := (3 : Int32)) (hb hby at_80) (q := 81) rfl rfl ?_
      refine own_iand X42 hx (hb hby at_81) (q := 82) rfl ?_
      refine own_iconst X42 hx (v := (3 : Int32)) (hb hby at_82) (q := 83) rfl rfl ?_
      refine own_irem X42 hx (hb hby at_83) (q := 84) rfl (by decide) ?_
      refine own_istore (L' := #[.val (.long q1), .second, .val (.long q2), .second, .val (.long q3), .second, .val (.int p4), .val (.int p5), .val (.int ((1 : Int32) + (p4 &&& (3 : Int32)))), .val (.int (XT.ushr p4 (2 : Int32))), .val (.long q1), .second, .val (.long z1), .second, .val (.long z8), .second, .val (.ref a19), .val (.int ((p5 &&& (3 : Int32)) % (3 : Int32))), .val (.int (((XT.ushr p5 (2 : Int32)) &&& (3 : Int32)) % (3 : Int32))), .unset, .unset, .unset, .unset, .unset, .unset, .unset]) X42 hx (hb hby at_84) (q := 86) rfl rfl ?_
      refine own_iload X42 hx (hb hby at_86) (q := 88) rfl rfl ?_
      refine own_iconst X42 hx (v := (4 : Int32)) (hb hby at_88) (q := 89) rfl rfl ?_
      refine own_iushr X42 hx (hb hby at_89) (q := 90) rfl ?_
      refine own_iconst X42 hx (v := (3 : Int32)) (hb hby at_90) (q := 91) rfl rfl ?_
      refine own_iand X42 hx (hb hby at_91) (q := 92) rfl ?_
      refine own_iconst X42 hx (v := (3 : Int32)) (hb hby at_92) (q := 93) rfl rfl ?_
      refine own_irem X42 hx (hb hby at_93) (q := 94) rfl (by decide) ?_
      refine own_istore (L' := #[.val (.long q1), .second, .val (.long q2), .second, .val (.long q3), .second, .val (.int p4), .val (.int p5), .val (.int ((1 : Int32) + (p4 &&& (3 : Int32)))), .val (.int (XT.ushr p4 (2 : Int32))), .val (.long q1), .second, .val (.long z1), .second, .val (.long z8), .second, .val (.ref a19), .val (.int ((p5 &&& (3 : Int32)) % (3 : Int32))), .val (.int (((XT.ushr p5 (2 : Int32)) &&& (3 : Int32)) % (3 : Int32))), .val (.int (((XT.ushr p5 (4 : Int32)) &&& (3 : Int32)) % (3 : Int32))), .unset, .unset, .unset, .unset, .unset, .unset]) X42 hx (hb hby at_94) (q := 96) rfl rfl ?_
      refine own_iload X42 hx (hb hby at_96) (q := 98) rfl rfl ?_
      refine own_bipush X42 hx (v := (6 : Int32)) (hb hby at_98) (q := 100) rfl rfl ?_
      refine own_iushr X42 hx (hb hby at_100) (q := 101) rfl ?_
      refine own_iconst X42 hx (v := (3 : Int32)) (hb hby at_101) (q := 102) rfl rfl ?_
      refine own_iand X42 hx (hb hby at_102) (q := 103) rfl ?_
      refine own_iconst X42 hx (v := (3 : Int32)) (hb hby at_103) (q := 104) rfl rfl ?_
      refine own_irem X42 hx (hb hby at_104) (q := 105) rfl (by decide) ?_
      refine own_istore (L' := #[.val (.long q1), .second, .val (.long q2), .second, .val (.long q3), .second, .val (.int p4), .val (.int p5), .val (.int ((1 : Int32) + (p4 &&& (3 : Int32)))), .val (.int (XT.ushr p4 (2 : Int32))), .val (.long q1), .second, .val (.long z1), .second, .val (.long z8), .second, .val (.ref a19), .val (.int ((p5 &&& (3 : Int32)) % (3 : Int32))), .val (.int (((XT.ushr p5 (2 : Int32)) &&& (3 : Int32)) % (3 : Int32))), .val (.int (((XT.ushr p5 (4 : Int32)) &&& (3 : Int32)) % (3 : Int32))), .val (.int (((XT.ushr p5 (6 : Int32)) &&& (3 : Int32)) % (3 : Int32))), .unset, .unset, .unset, .unset, .unset]) X42 hx (hb hby at_105) (q := 107) rfl rfl ?_
      rcases own_n4 p4 with hn | hn | hn | hn
      · rw [hn]
        refine own_iload X42 hx (hb hby at_107) (q := 109) rfl rfl ?_
        refine own_newA X42 hx hZ (aty := .int) (ty := .int) (k := 1) (cap := 1) rfl (hw _ (List.mem_of_getElem? (i := 1) rfl)) e43 (by decide) (by decide) (by decide) (by decide) (by decide) (by decide) (hb hby at_109) (q := 111) rfl (fun T49 h52 a53 X50 e51 g54 E55 A56 => ?_)
        have A57 := A46.ext E55
        have ne58 : a19 ≠ a53 := by rw [g54]; exact Nat.ne_of_lt A46.lt
        have Z59 : n0 ≤ a53 := by rw [g54]; exact Z47
        have Z60 : n0 ≤ h52.size := Nat.le_trans Z47 E55.1
        replace A56 : own_A Z h52 a53 .int [.int (0 : Int32)] := A56
        refine own_astore (L' := #[.val (.long q1), .second, .val (.long q2), .second, .val (.long q3), .second, .val (.int p4), .val (.int p5), .val (.int (1 : Int32)), .val (.int (XT.ushr p4 (2 : Int32))), .val (.long q1), .second, .val (.long z1), .second, .val (.long z8), .second, .val (.ref a19), .val (.int ((p5 &&& (3 : Int32)) % (3 : Int32))), .val (.int (((XT.ushr p5 (2 : Int32)) &&& (3 : Int32)) % (3 : Int32))), .val (.int (((XT.ushr p5 (4 : Int32)) &&& (3 : Int32)) % (3 : Int32))), .val (.int (((XT.ushr p5 (6 : Int32)) &&& (3 : Int32)) % (3 : Int32))), .val (.ref a53), .unset, .unset, .unset, .unset]) X50 hx (hb hby at_111) (q := 113) rfl rfl rfl ?_
        refine own_aload X50 hx (hb hby at_113) (q := 115) rfl rfl rfl ?_
        refine own_iconst X50 hx (v := (0 : Int32)) (hb hby at_115) (q := 116) rfl rfl ?_
        refine own_iload X50 hx (hb hby at_116) (q := 118) rfl rfl ?_
        refine own_iastore X50 hx hZ (i := 0) e51 A56 (by decide) (by decide) (Nat.le_of_ble_eq_true rfl) (hb hby at_118) (q := 119) rfl (fun T61 h64 X62 e63 W65 A66 => ?_)
        replace A66 : own_A Z h64 a53 .int [.int ((p5 &&& (3 : Int32)) % (3 : Int32))] := A66
        have A67 := A57.other W65 ne58
        have Z68 : n0 ≤ h64.size := W65.size ▸ Z60
        have N69 := Fr.snoc X62 N48 Z59
        refine own_iload X62 hx (hb hby at_119) (q := 121) rfl rfl ?_
        refine own_iconst X62 hx (v := (1 : Int32)) (hb hby at_121) (q := 122) rfl rfl ?_
        refine own_icmpM X62 hx (hb hby at_122) (cd := .le) (x := (1 : Int32)) (y := (1 : Int32)) (pt := 131) (q := 125) (by decide) (by decide) rfl rfl (fun _ => ?_) (fun h => False.elim (((by decide) : ¬ ((1 : Int32) < (1 : Int32))) h))
        refine own_iload X62 hx (hb hby at_131) (q := 133) rfl rfl ?_
        refine own_iconst X62 hx (v := (2 : Int32)) (hb hby at_133) (q := 134) rfl rfl ?_
        refine own_icmpM X62 hx (hb hby at_134) (cd := .le) (x := (1 : Int32)) (y := (2 : Int32)) (pt := 143) (q := 137) (by decide) (by decide) rfl rfl (fun _ => ?_) (fun h => False.elim (((by decide) : ¬ ((2 : Int32) < (1 : Int32))) h))
        refine own_iload X62 hx (hb hby at_143) (q := 145) rfl rfl ?_
        refine own_iconst X62 hx (v := (3 : Int32)) (hb hby at_145) (q := 146) rfl rfl ?_
        refine own_icmpM X62 hx (hb hby at_146) (cd := .le) (x := (1 : Int32)) (y := (3 : Int32)) (pt := 155) (q := 149) (by decide) (by decide) rfl rfl (fun _ => ?_) (fun h => False.elim (((by decide) : ¬ ((3 : Int32) < (1 : Int32))) h))
        refine own_aload X62 hx (hb hby at_155) (q := 157) rfl rfl rfl ?_
        refine own_aload X62 hx (hb hby at_157) (q := 159) rfl rfl rfl ?_
        refine own_callSP X62 hx hZ hown (hw _ (List.mem_of_getElem? (i := 2) rfl)) (hw _ (List.mem_of_getElem? (i := 3) rfl)) (hw _ (List.mem_of_getElem? (i := 4) rfl)) (hw _ (List.mem_of_getElem? (i := 5) rfl)) (by decide) (rm1_1 l Z a0 hw [] a53 a19 ((p5 &&& (3 : Int32)) % (3 : Int32)) q1 z1 z8 h64 A66 A67 (own_m3 _)) own_pd0 rfl e63 (by rw [hml]; rfl) (argsL := [.ref a53, .ref a19]) (st := []) rfl (W := 0) (Nat.le_of_eq rfl) (by decide) (by decide) (by decide) (by decide) (hb hby at_159) (q := 162) rfl (fun T70 X71 e72 => ?_)
        obtain ⟨r, hr⟩ : ∃ r, r = own_f1_1 ((p5 &&& (3 : Int32)) % (3 : Int32)) q1 z1 z8 := ⟨_, rfl⟩
        rw [← hr]
        have hr3 : r = 0 ∨ r = 1 ∨ r = 2 := by rw [hr]; exact own_r1 _ _ _ _ (own_m3 _)
        have hr0 : ¬ r < 0 := own_selN hr3
        have hr2 : ¬ (2 : Int32) < r := by rcases hr3 with h | h | h <;> rw [h] <;> decide
        refine own_istore (L' := #[.val (.long q1), .second, .val (.long q2), .second, .val (.long q3), .second, .val (.int p4), .val (.int p5), .val (.int (1 : Int32)), .val (.int (XT.ushr p4 (2 : Int32))), .val (.long q1), .second, .val (.long z1), .second, .val (.long z8), .second, .val (.ref a19), .val (.int ((p5 &&& (3 : Int32)) % (3 : Int32))), .val (.int (((XT.ushr p5 (2 : Int32)) &&& (3 : Int32)) % (3 : Int32))), .val (.int (((XT.ushr p5 (4 : Int32)) &&& (3 : Int32)) % (3 : Int32))), .val (.int (((XT.ushr p5 (6 : Int32)) &&& (3 : Int32)) % (3 : Int32))), .val (.ref a53), .val (.int r), .unset, .unset, .unset]) X71 hx (hb hby at_162) (q := 164) rfl rfl ?_
        refine own_iload X71 hx (hb hby at_164) (q := 166) rfl rfl ?_
        refine own_if0P X71 hx (hb hby at_166) (cd := .lt) (x := r) (pt := 175) (q := 169) (by decide) (by decide) rfl rfl (fun h => False.elim ((hr0 : ¬ (r < (0 : Int32))) h)) (fun _ => ?_)
        refine own_iload X71 hx (hb hby at_169) (q := 171) rfl rfl ?_
        refine own_iconst X71 hx (v := (2 : Int32)) (hb hby at_171) (q := 172) rfl rfl ?_
        refine own_icmpM X71 hx (hb hby at_172) (cd := .le) (x := r) (y := (2 : Int32)) (pt := 177) (q := 175) (by decide) (by decide) rfl rfl (fun _ => ?_) (fun h => False.elim ((hr2 : ¬ ((2 : Int32) < r)) h))
        refine own_aload X71 hx (hb hby at_177) (q := 179) rfl rfl rfl ?_
        refine own_iconst X71 hx (v := (0 : Int32)) (hb hby at_179) (q := 180) rfl rfl ?_
        refine own_laload X71 hx hZ (i := 0) (v := .long q1) e72 A67 (by decide) (by decide) rfl (hb hby at_180) (q := 181) rfl ?_
        refine own_lload X71 hx (hb hby at_181) (q := 183) rfl rfl ?_
        refine own_lcmp X71 hx (hb hby at_183) (q := 184) rfl ?_
        refine own_ifLM X71 hx (hb hby at_184) (cd := .ne) (x := q1) (y := q1) (pt := 207) (q := 187) (by decide) (by decide) rfl rfl (fun h => False.elim (h (rfl : q1 = q1))) (fun _ => ?_)
        refine own_aload X71 hx (hb hby at_187) (q := 189) rfl rfl rfl ?_
        refine own_iconst X71 hx (v := (1 : Int32)) (hb hby at_189) (q := 190) rfl rfl ?_
        refine own_laload X71 hx hZ (i := 1) (v := .long z1) e72 A67 (by decide) (by decide) rfl (hb hby at_190) (q := 191) rfl ?_
        refine own_lload X71 hx (hb hby at_191) (q := 193) rfl rfl ?_
        refine own_lcmp X71 hx (hb hby at_193) (q := 194) rfl ?_
        refine own_ifLM X71 hx (hb hby at_194) (cd := .ne) (x := z1) (y := z1) (pt := 207) (q := 197) (by decide) (by decide) rfl rfl (fun h => False.elim (h (rfl : z1 = z1))) (fun _ => ?_)
        refine own_aload X71 hx (hb hby at_197) (q := 199) rfl rfl rfl ?_
        refine own_iconst X71 hx (v := (2 : Int32)) (hb hby at_199) (q := 200) rfl rfl ?_
        refine own_laload X71 hx hZ (i := 2) (v := .long z8) e72 A67 (by decide) (by decide) rfl (hb hby at_200) (q := 201) rfl ?_
        refine own_lload X71 hx (hb hby at_201) (q := 203) rfl rfl ?_
        refine own_lcmp X71 hx (hb hby at_203) (q := 204) rfl ?_
        refine own_ifLP X71 hx (hb hby at_204) (cd := .eq) (x := z8) (y := z8) (pt := 209) (q := 207) (by decide) (by decide) rfl rfl (fun _ => ?_) (fun h => False.elim (h (rfl : z8 = z8)))
        refine own_iload X71 hx (hb hby at_209) (q := 211) rfl rfl ?_
        refine own_istore (L' := #[.val (.long q1), .second, .val (.long q2), .second, .val (.long q3), .second, .val (.int p4), .val (.int p5), .val (.int (1 : Int32)), .val (.int (XT.ushr p4 (2 : Int32))), .val (.long q1), .second, .val (.long z1), .second, .val (.long z8), .second, .val (.ref a19), .val (.int ((p5 &&& (3 : Int32)) % (3 : Int32))), .val (.int (((XT.ushr p5 (2 : Int32)) &&& (3 : Int32)) % (3 : Int32))), .val (.int (((XT.ushr p5 (4 : Int32)) &&& (3 : Int32)) % (3 : Int32))), .val (.int (((XT.ushr p5 (6 : Int32)) &&& (3 : Int32)) % (3 : Int32))), .val (.ref a53), .val (.int r), .val (.int (1 : Int32)), .unset, .unset]) X71 hx (hb hby at_211) (q := 213) rfl rfl ?_
        refine own_iload X71 hx (hb hby at_213) (q := 215) rfl rfl ?_
        refine own_iconst X71 hx (v := (3 : Int32)) (hb hby at_215) (q := 216) rfl rfl ?_
        refine own_icmpM X71 hx (hb hby at_216) (cd := .le) (x := (1 : Int32)) (y := (3 : Int32)) (pt := 229) (q := 219) (by decide) (by decide) rfl rfl (fun _ => ?_) (fun h => False.elim (((by decide) : ¬ ((3 : Int32) < (1 : Int32))) h))
        refine own_iload X71 hx (hb hby at_229) (q := 231) rfl rfl ?_
        refine own_iconst X71 hx (v := (2 : Int32)) (hb hby at_231) (q := 232) rfl rfl ?_
        refine own_icmpM X71 hx (hb hby at_232) (cd := .le) (x := (1 : Int32)) (y := (2 : Int32)) (pt := 245) (q := 235) (by decide) (by decide) rfl rfl (fun _ => ?_) (fun h => False.elim (((by decide) : ¬ ((2 : Int32) < (1 : Int32))) h))
        refine own_iload X71 hx (hb hby at_245) (q := 247) rfl rfl ?_
        refine own_iconst X71 hx (v := (1 : Int32)) (hb hby at_247) (q := 248) rfl rfl ?_
        refine own_icmpM X71 hx (hb hby at_248) (cd := .le) (x := (1 : Int32)) (y := (1 : Int32)) (pt := 261) (q := 251) (by decide) (by decide) rfl rfl (fun _ => ?_) (fun h => False.elim (((by decide) : ¬ ((1 : Int32) < (1 : Int32))) h))
        refine own_iload X71 hx (hb hby at_261) (q := 263) rfl rfl ?_
        refine own_iload X71 hx (hb hby at_263) (q := 265) rfl rfl ?_
        have J74 : ∀ (z73 : Int32), z73 = (if ((p5 &&& (3 : Int32)) % (3 : Int32)) = r then (0 : Int32) else (1 : Int32)) → own_Go p e below s 16 128 (own_Q0 n0) (T70.setTop (mkF m 271 #[.val (.long q1), .second, .val (.long q2), .second, .val (.long q3), .second, .val (.int p4), .val (.int p5), .val (.int (1 : Int32)), .val (.int (XT.ushr p4 (2 : Int32))), .val (.long q1), .second, .val (.long z1), .second, .val (.long z8), .second, .val (.ref a19), .val (.int ((p5 &&& (3 : Int32)) % (3 : Int32))), .val (.int (((XT.ushr p5 (2 : Int32)) &&& (3 : Int32)) % (3 : Int32))), .val (.int (((XT.ushr p5 (4 : Int32)) &&& (3 : Int32)) % (3 : Int32))), .val (.int (((XT.ushr p5 (6 : Int32)) &&& (3 : Int32)) % (3 : Int32))), .val (.ref a53), .val (.int r), .val (.int z73), .unset, .unset] [])) := by
          intro z73 hz79
          refine own_iload X71 hx (hb hby at_271) (q := 273) rfl rfl ?_
          refine own_iload X71 hx (hb hby at_273) (q := 275) rfl rfl ?_
          refine own_icmpM X71 hx (hb hby at_275) (cd := .ne) (x := z73) (y := (1 : Int32)) (pt := 280) (q := 278) (by decide) (by decide) rfl rfl (fun _ => ?_) (fun h => False.elim (((own_fin1 _ _ _ _ _ _ _ hr rfl (by rw [hz79])).1 : ¬ (z73 = (1 : Int32))) h))
          refine own_aload X71 hx (hb hby at_280) (q := 282) rfl rfl rfl ?_
          refine own_iload X71 hx (hb hby at_282) (q := 284) rfl rfl ?_
          refine own_laload X71 hx hZ (i := (r).toNatClampNeg) (v := .long (own_sel q1 z1 z8 r)) e72 A67 (own_selN hr3) rfl (own_selV hr3) (hb hby at_284) (q := 285) rfl ?_
          refine own_lstore (L' := #[.val (.long q1), .second, .val (.long q2), .second, .val (.long q3), .second, .val (.int p4), .val (.int p5), .val (.int (1 : Int32)), .val (.int (XT.ushr p4 (2 : Int32))), .val (.long q1), .second, .val (.long z1), .second, .val (.long z8), .second, .val (.ref a19), .val (.int ((p5 &&& (3 : Int32)) % (3 : Int32))), .val (.int (((XT.ushr p5 (2 : Int32)) &&& (3 : Int32)) % (3 : Int32))), .val (.int (((XT.ushr p5 (4 : Int32)) &&& (3 : Int32)) % (3 : Int32))), .val (.int (((XT.ushr p5 (6 : Int32)) &&& (3 : Int32)) % (3 : Int32))), .val (.ref a53), .val (.int r), .val (.int z73), .val (.long (own_sel q1 z1 z8 r)), .second]) X71 hx (hb hby at_285) (q := 287) rfl rfl ?_
          refine own_iconst X71 hx (v := (0 : Int32)) (hb hby at_287) (q := 288) rfl rfl ?_
          refine own_iload X71 hx (hb hby at_288) (q := 290) rfl rfl ?_
          refine own_iload X71 hx (hb hby at_290) (q := 292) rfl rfl ?_
          refine own_iload X71 hx (hb hby at_292) (q := 294) rfl rfl ?_
          refine own_aload X71 hx (hb hby at_294) (q := 296) rfl rfl rfl ?_
          refine own_lload X71 hx (hb hby at_296) (q := 298) rfl rfl ?_
          refine own_callSP X71 hx hZ hown (hw _ (List.mem_of_getElem? (i := 6) rfl)) (hw _ (List.mem_of_getElem? (i := 7) rfl)) (hw _ (List.mem_of_getElem? (i := 8) rfl)) (hw _ (List.mem_of_getElem? (i := 9) rfl)) (by decide) (rm2 l Z a0 hw [] (0 : Int32) (1 : Int32) z73 ((p5 &&& (3 : Int32)) % (3 : Int32)) a19 (own_sel q1 z1 z8 r) q1 z1 z8 h64 A67 (own_m3 _)) own_pd1 rfl e72 (by rw [hml]; rfl) (argsL := [.int (0 : Int32), .int (1 : Int32), .int z73, .int ((p5 &&& (3 : Int32)) % (3 : Int32)), .ref a19, .long (own_sel q1 z1 z8 r)]) (st := []) rfl (W := 0) (Nat.le_of_eq rfl) (by decide) (by decide) (by decide) (by decide) (hb hby at_298) (q := 301) rfl (fun T80 X81 e82 => ?_)
          refine own_if0P X81 hx (hb hby at_301) (cd := .eq) (x := own_f2 (0 : Int32) (1 : Int32) z73 ((p5 &&& (3 : Int32)) % (3 : Int32)) (own_sel q1 z1 z8 r) q1 z1 z8) (pt := 359) (q := 304) (by decide) (by decide) rfl rfl (fun h => False.elim (((own_fin1 _ _ _ _ _ _ _ hr rfl (by rw [hz79])).2 : ¬ ((own_f2 (0 : Int32) (1 : Int32) z73 ((p5 &&& (3 : Int32)) % (3 : Int32)) (own_sel q1 z1 z8 r) q1 z1 z8) = (0 : Int32))) h)) (fun _ => ?_)
          refine own_iconst X81 hx (v := (1 : Int32)) (hb hby at_304) (q := 305) rfl rfl ?_
          refine own_iload X81 hx (hb hby at_305) (q := 307) rfl rfl ?_
          refine own_iload X81 hx (hb hby at_307) (q := 309) rfl rfl ?_
          refine own_iload X81 hx (hb hby at_309) (q := 311) rfl rfl ?_
          refine own_aload X81 hx (hb hby at_311) (q := 313) rfl rfl rfl ?_
          refine own_lload X81 hx (hb hby at_313) (q := 315) rfl rfl ?_
          refine own_callSP X81 hx hZ hown (hw _ (List.mem_of_getElem? (i := 6) rfl)) (hw _ (List.mem_of_getElem? (i := 7) rfl)) (hw _ (List.mem_of_getElem? (i := 8) rfl)) (hw _ (List.mem_of_getElem? (i := 9) rfl)) (by decide) (rm2 l Z a0 hw [] (1 : Int32) (1 : Int32) z73 (((XT.ushr p5 (2 : Int32)) &&& (3 : Int32)) % (3 : Int32)) a19 (own_sel q1 z1 z8 r) q1 z1 z8 h64 A67 (own_m3 _)) own_pd1 rfl e82 (by rw [hml]; rfl) (argsL := [.int (1 : Int32), .int (1 : Int32), .int z73, .int (((XT.ushr p5 (2 : Int32)) &&& (3 : Int32)) % (3 : Int32)), .ref a19, .long (own_sel q1 z1 z8 r)]) (st := []) rfl (W := 0) (Nat.le_of_eq rfl) (by decide) (by decide) (by decide) (by decide) (hb hby at_315) (q := 318) rfl (fun T83 X84 e85 => ?_)
          refine own_if0P X84 hx (hb hby at_318) (cd := .eq) (x := own_f2 (1 : Int32) (1 : Int32) z73 (((XT.ushr p5 (2 : Int32)) &&& (3 : Int32)) % (3 : Int32)) (own_sel q1 z1 z8 r) q1 z1 z8) (pt := 359) (q := 321) (by decide) (by decide) rfl rfl (fun h => False.elim (((by rw [own_f2, if_neg (by decide)]; decide) : ¬ ((own_f2 (1 : Int32) (1 : Int32) z73 (((XT.ushr p5 (2 : Int32)) &&& (3 : Int32)) % (3 : Int32)) (own_sel q1 z1 z8 r) q1 z1 z8) = (0 : Int32))) h)) (fun _ => ?_)
          refine own_iconst X84 hx (v := (2 : Int32)) (hb hby at_321) (q := 322) rfl rfl ?_
          refine own_iload X84 hx (hb hby at_322) (q := 324) rfl rfl ?_
          refine own_iload X84 hx (hb hby at_324) (q := 326) rfl rfl ?_
          refine own_iload X84 hx (hb hby at_326) (q := 328) rfl rfl ?_
          refine own_aload X84 hx (hb hby at_328) (q := 330) rfl rfl rfl ?_
          refine own_lload X84 hx (hb hby at_330) (q := 332) rfl rfl ?_
          refine own_callSP X84 hx hZ hown (hw _ (List.mem_of_getElem? (i := 6) rfl)) (hw _ (List.mem_of_getElem? (i := 7) rfl)) (hw _ (List.mem_of_getElem? (i := 8) rfl)) (hw _ (List.mem_of_getElem? (i := 9) rfl)) (by decide) (rm2 l Z a0 hw [] (2 : Int32) (1 : Int32) z73 (((XT.ushr p5 (4 : Int32)) &&& (3 : Int32)) % (3 : Int32)) a19 (own_sel q1 z1 z8 r) q1 z1 z8 h64 A67 (own_m3 _)) own_pd1 rfl e85 (by rw [hml]; rfl) (argsL := [.int (2 : Int32), .int (1 : Int32), .int z73, .int (((XT.ushr p5 (4 : Int32)) &&& (3 : Int32)) % (3 : Int32)), .ref a19, .long (own_sel q1 z1 z8 r)]) (st := []) rfl (W := 0) (Nat.le_of_eq rfl) (by decide) (by decide) (by decide) (by decide) (hb hby at_332) (q := 335) rfl (fun T86 X87 e88 => ?_)
          refine own_if0P X87 hx (hb hby at_335) (cd := .eq) (x := own_f2 (2 : Int32) (1 : Int32) z73 (((XT.ushr p5 (4 : Int32)) &&& (3 : Int32)) % (3 : Int32)) (own_sel q1 z1 z8 r) q1 z1 z8) (pt := 359) (q := 338) (by decide) (by decide) rfl rfl (fun h => False.elim (((by rw [own_f2, if_neg (by decide)]; decide) : ¬ ((own_f2 (2 : Int32) (1 : Int32) z73 (((XT.ushr p5 (4 : Int32)) &&& (3 : Int32)) % (3 : Int32)) (own_sel q1 z1 z8 r) q1 z1 z8) = (0 : Int32))) h)) (fun _ => ?_)
          refine own_iconst X87 hx (v := (3 : Int32)) (hb hby at_338) (q := 339) rfl rfl ?_
          refine own_iload X87 hx (hb hby at_339) (q := 341) rfl rfl ?_
          refine own_iload X87 hx (hb hby at_341) (q := 343) rfl rfl ?_
          refine own_iload X87 hx (hb hby at_343) (q := 345) rfl rfl ?_
          refine own_aload X87 hx (hb hby at_345) (q := 347) rfl rfl rfl ?_
          refine own_lload X87 hx (hb hby at_347) (q := 349) rfl rfl ?_
          refine own_callSP X87 hx hZ hown (hw _ (List.mem_of_getElem? (i := 6) rfl)) (hw _ (List.mem_of_getElem? (i := 7) rfl)) (hw _ (List.mem_of_getElem? (i := 8) rfl)) (hw _ (List.mem_of_getElem? (i := 9) rfl)) (by decide) (rm2 l Z a0 hw [] (3 : Int32) (1 : Int32) z73 (((XT.ushr p5 (6 : Int32)) &&& (3 : Int32)) % (3 : Int32)) a19 (own_sel q1 z1 z8 r) q1 z1 z8 h64 A67 (own_m3 _)) own_pd1 rfl e88 (by rw [hml]; rfl) (argsL := [.int (3 : Int32), .int (1 : Int32), .int z73, .int (((XT.ushr p5 (6 : Int32)) &&& (3 : Int32)) % (3 : Int32)), .ref a19, .long (own_sel q1 z1 z8 r)]) (st := []) rfl (W := 0) (Nat.le_of_eq rfl) (by decide) (by decide) (by decide) (by decide) (hb hby at_349) (q := 352) rfl (fun T89 X90 e91 => ?_)
          refine own_if0P X90 hx (hb hby at_352) (cd := .eq) (x := own_f2 (3 : Int32) (1 : Int32) z73 (((XT.ushr p5 (6 : Int32)) &&& (3 : Int32)) % (3 : Int32)) (own_sel q1 z1 z8 r) q1 z1 z8) (pt := 359) (q := 355) (by decide) (by decide) rfl rfl (fun h => False.elim (((by rw [own_f2, if_neg (by decide)]; decide) : ¬ ((own_f2 (3 : Int32) (1 : Int32) z73 (((XT.ushr p5 (6 : Int32)) &&& (3 : Int32)) % (3 : Int32)) (own_sel q1 z1 z8 r) q1 z1 z8) = (0 : Int32))) h)) (fun _ => ?_)
          refine own_iconst X90 hx (v := (1 : Int32)) (hb hby at_355) (q := 356) rfl rfl ?_
          refine own_goto X90 hx (hb hby at_356) (q := 360) (by decide) (by decide) ?_
          refine own_retN X90 hx hlk (t := .boolean) (by simp) Bd.returns (hb hby at_360) ?_ (by decide) (by decide)
          exact ⟨rfl, N69⟩
        refine own_icmpM X71 hx (hb hby at_265) (cd := .ne) (x := (p5 &&& (3 : Int32)) % (3 : Int32)) (y := r) (pt := 271) (q := 268) (by decide) (by decide) rfl rfl (fun (c20 : ¬ (((p5 &&& (3 : Int32)) % (3 : Int32)) = r)) => ?_) (fun (c20 : ((p5 &&& (3 : Int32)) % (3 : Int32)) = r) => ?_)
        · exact J74 _ (by rw [if_neg c20])
        · refine own_iconst X71 hx (v := (0 : Int32)) (hb hby at_268) (q := 269) rfl rfl ?_
          refine own_istore (L' := #[.val (.long q1), .second, .val (.long q2), .second, .val (.long q3), .second, .val (.int p4), .val (.int p5), .val (.int (1 : Int32)), .val (.int (XT.ushr p4 (2 : Int32))), .val (.long q1), .second, .val (.long z1), .second, .val (.long z8), .second, .val (.ref a19), .val (.int ((p5 &&& (3 : Int32)) % (3 : Int32))), .val (.int (((XT.ushr p5 (2 : Int32)) &&& (3 : Int32)) % (3 : Int32))), .val (.int (((XT.ushr p5 (4 : Int32)) &&& (3 : Int32)) % (3 : Int32))), .val (.int (((XT.ushr p5 (6 : Int32)) &&& (3 : Int32)) % (3 : Int32))), .val (.ref a53), .val (.int r), .val (.int (0 : Int32)), .unset, .unset]) X71 hx (hb hby at_269) (q := 271) rfl rfl ?_
          exact J74 _ (by rw [if_pos c20])
      · rw [hn]
        refine own_iload X42 hx (hb hby at_107) (q := 109) rfl rfl ?_
        refine own_newA X42 hx hZ (aty := .int) (ty := .int) (k := 2) (cap := 2) rfl (hw _ (List.mem_of_getElem? (i := 1) rfl)) e43 (by decide) (by decide) (by decide) (by decide) (by decide) (by decide) (hb hby at_109) (q := 111) rfl (fun T92 h95 a96 X93 e94 g97 E98 A99 => ?_)
        have A100 := A46.ext E98
        have ne101 : a19 ≠ a96 := by rw [g97]; exact Nat.ne_of_lt A46.lt
        have Z102 : n0 ≤ a96 := by rw [g97]; exact Z47
        have Z103 : n0 ≤ h95.size := Nat.le_trans Z47 E98.1
        replace A99 : own_A Z h95 a96 .int [.int (0 : Int32), .int (0 : Int32)] := A99
        refine own_astore (L' := #[.val (.long q1), .second, .val (.long q2), .second, .val (.long q3), .second, .val (.int p4), .val (.int p5), .val (.int (2 : Int32)), .val (.int (XT.ushr p4 (2 : Int32))), .val (.long q1), .second, .val (.long z1), .second, .val (.long z8), .second, .val (.ref a19), .val (.int ((p5 &&& (3 : Int32)) % (3 : Int32))), .val (.int (((XT.ushr p5 (2 : Int32)) &&& (3 : Int32)) % (3 : Int32))), .val (.int (((XT.ushr p5 (4 : Int32)) &&& (3 : Int32)) % (3 : Int32))), .val (.int (((XT.ushr p5 (6 : Int32)) &&& (3 : Int32)) % (3 : Int32))), .val (.ref a96), .unset, .unset, .unset, .unset]) X93 hx (hb hby at_111) (q := 113) rfl rfl rfl ?_
        refine own_aload X93 hx (hb hby at_113) (q := 115) rfl rfl rfl ?_
        refine own_iconst X93 hx (v := (0 : Int32)) (hb hby at_115) (q := 116) rfl rfl ?_
        refine own_iload X93 hx (hb hby at_116) (q := 118) rfl rfl ?_
        refine own_iastore X93 hx hZ (i := 0) e94 A99 (by decide) (by decide) (Nat.le_of_ble_eq_true rfl) (hb hby at_118) (q := 119) rfl (fun T104 h107 X105 e106 W108 A109 => ?_)
        replace A109 : own_A Z h107 a96 .int [.int ((p5 &&& (3 : Int32)) % (3 : Int32)), .int (0 : Int32)] := A109
        have A110 := A100.other W108 ne101
        have Z111 : n0 ≤ h107.size := W108.size ▸ Z103
        have N112 := Fr.snoc X105 N48 Z102
        refine own_iload X105 hx (hb hby at_119) (q := 121) rfl rfl ?_
        refine own_iconst X105 hx (v := (1 : Int32)) (hb hby at_121) (q := 122) rfl rfl ?_
        refine own_icmpM X105 hx (hb hby at_122) (cd := .le) (x := (2 : Int32)) (y := (1 : Int32)) (pt := 131) (q := 125) (by decide) (by decide) rfl rfl (fun h => False.elim (h ((by decide) : (1 : Int32) < (2 : Int32)))) (fun _ => ?_)
        refine own_aload X105 hx (hb hby at_125) (q := 127) rfl rfl rfl ?_
        refine own_iconst X105 hx (v := (1 : Int32)) (hb hby at_127) (q := 128) rfl rfl ?_
        refine own_iload X105 hx (hb hby at_128) (q := 130) rfl rfl ?_
        refine own_iastore X105 hx hZ (i := 1) e106 A109 (by decide) (by decide) (Nat.le_of_ble_eq_true rfl) (hb hby at_130) (q := 131) rfl (fun T113 h116 X114 e115 W117 A118 => ?_)
        replace A118 : own_A Z h116 a96 .int [.int ((p5 &&& (3 : Int32)) % (3 : Int32)), .int (((XT.ushr p5 (2 : Int32)) &&& (3 : Int32)) % (3 : Int32))] := A118
        have A119 := A110.other W117 ne101
        have Z120 : n0 ≤ h116.size := W117.size ▸ Z111
        have N121 := Fr.snoc X114 N112 Z102
        refine own_iload X114 hx (hb hby at_131) (q := 133) rfl rfl ?_
        refine own_iconst X114 hx (v := (2 : Int32)) (hb hby at_133) (q := 134) rfl rfl ?_
        refine own_icmpM X114 hx (hb hby at_134) (cd := .le) (x := (2 : Int32)) (y := (2 : Int32)) (pt := 143) (q := 137) (by decide) (by decide) rfl rfl (fun _ => ?_) (fun h => False.elim (((by decide) : ¬ ((2 : Int32) < (2 : Int32))) h))
        refine own_iload X114 hx (hb hby at_143) (q := 145) rfl rfl ?_
        refine own_iconst X114 hx (v := (3 : Int32)) (hb hby at_145) (q := 146) rfl rfl ?_
        refine own_icmpM X114 hx (hb hby at_146) (cd := .le) (x := (2 : Int32)) (y := (3 : Int32)) (pt := 155) (q := 149) (by decide) (by decide) rfl rfl (fun _ => ?_) (fun h => False.elim (((by decide) : ¬ ((3 : Int32) < (2 : Int32))) h))
        refine own_aload X114 hx (hb hby at_155) (q := 157) rfl rfl rfl ?_
        refine own_aload X114 hx (hb hby at_157) (q := 159) rfl rfl rfl ?_
        refine own_callSP X114 hx hZ hown (hw _ (List.mem_of_getElem? (i := 2) rfl)) (hw _ (List.mem_of_getElem? (i := 3) rfl)) (hw _ (List.mem_of_getElem? (i := 4) rfl)) (hw _ (List.mem_of_getElem? (i := 5) rfl)) (by decide) (rm1_2 l Z a0 hw [] a96 a19 ((p5 &&& (3 : Int32)) % (3 : Int32)) (((XT.ushr p5 (2 : Int32)) &&& (3 : Int32)) % (3 : Int32)) q1 z1 z8 h116 A118 A119 (own_m3 _) (own_m3 _)) own_pd0 rfl e115 (by rw [hml]; rfl) (argsL := [.ref a96, .ref a19]) (st := []) rfl (W := 0) (Nat.le_of_eq rfl) (by decide) (by decide) (by decide) (by decide) (hb hby at_159) (q := 162) rfl (fun T122 X123 e124 => ?_)
        obtain ⟨r, hr⟩ : ∃ r, r = own_f1_2 ((p5 &&& (3 : Int32)) % (3 : Int32)) (((XT.ushr p5 (2 : Int32)) &&& (3 : Int32)) % (3 : Int32)) q1 z1 z8 := ⟨_, rfl⟩
        rw [← hr]
        have hr3 : r = 0 ∨ r = 1 ∨ r = 2 := by rw [hr]; exact own_r2 _ _ _ _ _ (own_m3 _) (own_m3 _)
        have hr0 : ¬ r < 0 := own_selN hr3
        have hr2 : ¬ (2 : Int32) < r := by rcases hr3 with h | h | h <;> rw [h] <;> decide
        refine own_istore (L' := #[.val (.long q1), .second, .val (.long q2), .second, .val (.long q3), .second, .val (.int p4), .val (.int p5), .val (.int (2 : Int32)), .val (.int (XT.ushr p4 (2 : Int32))), .val (.long q1), .second, .val (.long z1), .second, .val (.long z8), .second, .val (.ref a19), .val (.int ((p5 &&& (3 : Int32)) % (3 : Int32))), .val (.int (((XT.ushr p5 (2 : Int32)) &&& (3 : Int32)) % (3 : Int32))), .val (.int (((XT.ushr p5 (4 : Int32)) &&& (3 : Int32)) % (3 : Int32))), .val (.int (((XT.ushr p5 (6 : Int32)) &&& (3 : Int32)) % (3 : Int32))), .val (.ref a96), .val (.int r), .unset, .unset, .unset]) X123 hx (hb hby at_162) (q := 164) rfl rfl ?_
        refine own_iload X123 hx (hb hby at_164) (q := 166) rfl rfl ?_
        refine own_if0P X123 hx (hb hby at_166) (cd := .lt) (x := r) (pt := 175) (q := 169) (by decide) (by decide) rfl rfl (fun h => False.elim ((hr0 : ¬ (r < (0 : Int32))) h)) (fun _ => ?_)
        refine own_iload X123 hx (hb hby at_169) (q := 171) rfl rfl ?_
        refine own_iconst X123 hx (v := (2 : Int32)) (hb hby at_171) (q := 172) rfl rfl ?_
        refine own_icmpM X123 hx (hb hby at_172) (cd := .le) (x := r) (y := (2 : Int32)) (pt := 177) (q := 175) (by decide) (by decide) rfl rfl (fun _ => ?_) (fun h => False.elim ((hr2 : ¬ ((2 : Int32) < r)) h))
        refine own_aload X123 hx (hb hby at_177) (q := 179) rfl rfl rfl ?_
        refine own_iconst X123 hx (v := (0 : Int32)) (hb hby at_179) (q := 180) rfl rfl ?_
        refine own_laload X123 hx hZ (i := 0) (v := .long q1) e124 A119 (by decide) (by decide) rfl (hb hby at_180) (q := 181) rfl ?_
        refine own_lload X123 hx (hb hby at_181) (q := 183) rfl rfl ?_
        refine own_lcmp X123 hx (hb hby at_183) (q := 184) rfl ?_
        refine own_ifLM X123 hx (hb hby at_184) (cd := .ne) (x := q1) (y := q1) (pt := 207) (q := 187) (by decide) (by decide) rfl rfl (fun h => False.elim (h (rfl : q1 = q1))) (fun _ => ?_)
        refine own_aload X123 hx (hb hby at_187) (q := 189) rfl rfl rfl ?_
        refine own_iconst X123 hx (v := (1 : Int32)) (hb hby at_189) (q := 190) rfl rfl ?_
        refine own_laload X123 hx hZ (i := 1) (v := .long z1) e124 A119 (by decide) (by decide) rfl (hb hby at_190) (q := 191) rfl ?_
        refine own_lload X123 hx (hb hby at_191) (q := 193) rfl rfl ?_
        refine own_lcmp X123 hx (hb hby at_193) (q := 194) rfl ?_
        refine own_ifLM X123 hx (hb hby at_194) (cd := .ne) (x := z1) (y := z1) (pt := 207) (q := 197) (by decide) (by decide) rfl rfl (fun h => False.elim (h (rfl : z1 = z1))) (fun _ => ?_)
        refine own_aload X123 hx (hb hby at_197) (q := 199) rfl rfl rfl ?_
        refine own_iconst X123 hx (v := (2 : Int32)) (hb hby at_199) (q := 200) rfl rfl ?_
        refine own_laload X123 hx hZ (i := 2) (v := .long z8) e124 A119 (by decide) (by decide) rfl (hb hby at_200) (q := 201) rfl ?_
        refine own_lload X123 hx (hb hby at_201) (q := 203) rfl rfl ?_
        refine own_lcmp X123 hx (hb hby at_203) (q := 204) rfl ?_
        refine own_ifLP X123 hx (hb hby at_204) (cd := .eq) (x := z8) (y := z8) (pt := 209) (q := 207) (by decide) (by decide) rfl rfl (fun _ => ?_) (fun h => False.elim (h (rfl : z8 = z8)))
        refine own_iload X123 hx (hb hby at_209) (q := 211) rfl rfl ?_
        refine own_istore (L' := #[.val (.long q1), .second, .val (.long q2), .second, .val (.long q3), .second, .val (.int p4), .val (.int p5), .val (.int (2 : Int32)), .val (.int (XT.ushr p4 (2 : Int32))), .val (.long q1), .second, .val (.long z1), .second, .val (.long z8), .second, .val (.ref a19), .val (.int ((p5 &&& (3 : Int32)) % (3 : Int32))), .val (.int (((XT.ushr p5 (2 : Int32)) &&& (3 : Int32)) % (3 : Int32))), .val (.int (((XT.ushr p5 (4 : Int32)) &&& (3 : Int32)) % (3 : Int32))), .val (.int (((XT.ushr p5 (6 : Int32)) &&& (3 : Int32)) % (3 : Int32))), .val (.ref a96), .val (.int r), .val (.int (2 : Int32)), .unset, .unset]) X123 hx (hb hby at_211) (q := 213) rfl rfl ?_
        refine own_iload X123 hx (hb hby at_213) (q := 215) rfl rfl ?_
        refine own_iconst X123 hx (v := (3 : Int32)) (hb hby at_215) (q := 216) rfl rfl ?_
        refine own_icmpM X123 hx (hb hby at_216) (cd := .le) (x := (2 : Int32)) (y := (3 : Int32)) (pt := 229) (q := 219) (by decide) (by decide) rfl rfl (fun _ => ?_) (fun h => False.elim (((by decide) : ¬ ((3 : Int32) < (2 : Int32))) h))
        refine own_iload X123 hx (hb hby at_229) (q := 231) rfl rfl ?_
        refine own_iconst X123 hx (v := (2 : Int32)) (hb hby at_231) (q := 232) rfl rfl ?_
        refine own_icmpM X123 hx (hb hby at_232) (cd := .le) (x := (2 : Int32)) (y := (2 : Int32)) (pt := 245) (q := 235) (by decide) (by decide) rfl rfl (fun _ => ?_) (fun h => False.elim (((by decide) : ¬ ((2 : Int32) < (2 : Int32))) h))
        refine own_iload X123 hx (hb hby at_245) (q := 247) rfl rfl ?_
        refine own_iconst X123 hx (v := (1 : Int32)) (hb hby at_247) (q := 248) rfl rfl ?_
        refine own_icmpM X123 hx (hb hby at_248) (cd := .le) (x := (2 : Int32)) (y := (1 : Int32)) (pt := 261) (q := 251) (by decide) (by decide) rfl rfl (fun h => False.elim (h ((by decide) : (1 : Int32) < (2 : Int32)))) (fun _ => ?_)
        refine own_iload X123 hx (hb hby at_251) (q := 253) rfl rfl ?_
        refine own_iload X123 hx (hb hby at_253) (q := 255) rfl rfl ?_
        have J126 : ∀ (z125 : Int32), z125 = (if (((XT.ushr p5 (2 : Int32)) &&& (3 : Int32)) % (3 : Int32)) = r then (1 : Int32) else (2 : Int32)) → own_Go p e below s 16 128 (own_Q0 n0) (T122.setTop (mkF m 261 #[.val (.long q1), .second, .val (.long q2), .second, .val (.long q3), .second, .val (.int p4), .val (.int p5), .val (.int (2 : Int32)), .val (.int (XT.ushr p4 (2 : Int32))), .val (.long q1), .second, .val (.long z1), .second, .val (.long z8), .second, .val (.ref a19), .val (.int ((p5 &&& (3 : Int32)) % (3 : Int32))), .val (.int (((XT.ushr p5 (2 : Int32)) &&& (3 : Int32)) % (3 : Int32))), .val (.int (((XT.ushr p5 (4 : Int32)) &&& (3 : Int32)) % (3 : Int32))), .val (.int (((XT.ushr p5 (6 : Int32)) &&& (3 : Int32)) % (3 : Int32))), .val (.ref a96), .val (.int r), .val (.int z125), .unset, .unset] [])) := by
          intro z125 hz131
          refine own_iload X123 hx (hb hby at_261) (q := 263) rfl rfl ?_
          refine own_iload X123 hx (hb hby at_263) (q := 265) rfl rfl ?_
          have J133 : ∀ (z132 : Int32), z132 = (if ((p5 &&& (3 : Int32)) % (3 : Int32)) = r then (0 : Int32) else z125) → own_Go p e below s 16 128 (own_Q0 n0) (T122.setTop (mkF m 271 #[.val (.long q1), .second, .val (.long q2), .second, .val (.long q3), .second, .val (.int p4), .val (.int p5), .val (.int (2 : Int32)), .val (.int (XT.ushr p4 (2 : Int32))), .val (.long q1), .second, .val (.long z1), .second, .val (.long z8), .second, .val (.ref a19), .val (.int ((p5 &&& (3 : Int32)) % (3 : Int32))), .val (.int (((XT.ushr p5 (2 : Int32)) &&& (3 : Int32)) % (3 : Int32))), .val (.int (((XT.ushr p5 (4 : Int32)) &&& (3 : Int32)) % (3 : Int32))), .val (.int (((XT.ushr p5 (6 : Int32)) &&& (3 : Int32)) % (3 : Int32))), .val (.ref a96), .val (.int r), .val (.int z132), .unset, .unset] [])) := by
            intro z132 hz138
            refine own_iload X123 hx (hb hby at_271) (q := 273) rfl rfl ?_
            refine own_iload X123 hx (hb hby at_273) (q := 275) rfl rfl ?_
            refine own_icmpM X123 hx (hb hby at_275) (cd := .ne) (x := z132) (y := (2 : Int32)) (pt := 280) (q := 278) (by decide) (by decide) rfl rfl (fun _ => ?_) (fun h => False.elim (((own_fin2 _ _ _ _ _ _ _ _ hr rfl (by rw [hz138, hz131])).1 : ¬ (z132 = (2 : Int32))) h))
            refine own_aload X123 hx (hb hby at_280) (q := 282) rfl rfl rfl ?_
            refine own_iload X123 hx (hb hby at_282) (q := 284) rfl rfl ?_
            refine own_laload X123 hx hZ (i := (r).toNatClampNeg) (v := .long (own_sel q1 z1 z8 r)) e124 A119 (own_selN hr3) rfl (own_selV hr3) (hb hby at_284) (q := 285) rfl ?_
            refine own_lstore (L' := #[.val (.long q1), .second, .val (.long q2), .second, .val (.long q3), .second, .val (.int p4), .val (.int p5), .val (.int (2 : Int32)), .val (.int (XT.ushr p4 (2 : Int32))), .val (.long q1), .second, .val (.long z1), .second, .val (.long z8), .second, .val (.ref a19), .val (.int ((p5 &&& (3 : Int32)) % (3 : Int32))), .val (.int (((XT.ushr p5 (2 : Int32)) &&& (3 : Int32)) % (3 : Int32))), .val (.int (((XT.ushr p5 (4 : Int32)) &&& (3 : Int32)) % (3 : Int32))), .val (.int (((XT.ushr p5 (6 : Int32)) &&& (3 : Int32)) % (3 : Int32))), .val (.ref a96), .val (.int r), .val (.int z132), .val (.long (own_sel q1 z1 z8 r)), .second]) X123 hx (hb hby at_285) (q := 287) rfl rfl ?_
            refine own_iconst X123 hx (v := (0 : Int32)) (hb hby at_287) (q := 288) rfl rfl ?_
            refine own_iload X123 hx (hb hby at_288) (q := 290) rfl rfl ?_
            refine own_iload X123 hx (hb hby at_290) (q := 292) rfl rfl ?_
            refine own_iload X123 hx (hb hby at_292) (q := 294) rfl rfl ?_
            refine own_aload X123 hx (hb hby at_294) (q := 296) rfl rfl rfl ?_
            refine own_lload X123 hx (hb hby at_296) (q := 298) rfl rfl ?_
            refine own_callSP X123 hx hZ hown (hw _ (List.mem_of_getElem? (i := 6) rfl)) (hw _ (List.mem_of_getElem? (i := 7) rfl)) (hw _ (List.mem_of_getElem? (i := 8) rfl)) (hw _ (List.mem_of_getElem? (i := 9) rfl)) (by decide) (rm2 l Z a0 hw [] (0 : Int32) (2 : Int32) z132 ((p5 &&& (3 : Int32)) % (3 : Int32)) a19 (own_sel q1 z1 z8 r) q1 z1 z8 h116 A119 (own_m3 _)) own_pd1 rfl e124 (by rw [hml]; rfl) (argsL := [.int (0 : Int32), .int (2 : Int32), .int z132, .int ((p5 &&& (3 : Int32)) % (3 : Int32)), .ref a19, .long (own_sel q1 z1 z8 r)]) (st := []) rfl (W := 0) (Nat.le_of_eq rfl) (by decide) (by decide) (by decide) (by decide) (hb hby at_298) (q := 301) rfl (fun T139 X140 e141 => ?_)
            refine own_if0P X140 hx (hb hby at_301) (cd := .eq) (x := own_f2 (0 : Int32) (2 : Int32) z132 ((p5 &&& (3 : Int32)) % (3 : Int32)) (own_sel q1 z1 z8 r) q1 z1 z8) (pt := 359) (q := 304) (by decide) (by decide) rfl rfl (fun h => False.elim (((own_fin2 _ _ _ _ _ _ _ _ hr rfl (by rw [hz138, hz131])).2.1 : ¬ ((own_f2 (0 : Int32) (2 : Int32) z132 ((p5 &&& (3 : Int32)) % (3 : Int32)) (own_sel q1 z1 z8 r) q1 z1 z8) = (0 : Int32))) h)) (fun _ => ?_)
            refine own_iconst X140 hx (v := (1 : Int32)) (hb hby at_304) (q := 305) rfl rfl ?_
            refine own_iload X140 hx (hb hby at_305) (q := 307) rfl rfl ?_
            refine own_iload X140 hx (hb hby at_307) (q := 309) rfl rfl ?_
            refine own_iload X140 hx (hb hby at_309) (q := 311) rfl rfl ?_
            refine own_aload X140 hx (hb hby at_311) (q := 313) rfl rfl rfl ?_
            refine own_lload X140 hx (hb hby at_313) (q := 315) rfl rfl ?_
            refine own_callSP X140 hx hZ hown (hw _ (List.mem_of_getElem? (i := 6) rfl)) (hw _ (List.mem_of_getElem? (i := 7) rfl)) (hw _ (List.mem_of_getElem? (i := 8) rfl)) (hw _ (List.mem_of_getElem? (i := 9) rfl)) (by decide) (rm2 l Z a0 hw [] (1 : Int32) (2 : Int32) z132 (((XT.ushr p5 (2 : Int32)) &&& (3 : Int32)) % (3 : Int32)) a19 (own_sel q1 z1 z8 r) q1 z1 z8 h116 A119 (own_m3 _)) own_pd1 rfl e141 (by rw [hml]; rfl) (argsL := [.int (1 : Int32), .int (2 : Int32), .int z132, .int (((XT.ushr p5 (2 : Int32)) &&& (3 : Int32)) % (3 : Int32)), .ref a19, .long (own_sel q1 z1 z8 r)]) (st := []) rfl (W := 0) (Nat.le_of_eq rfl) (by decide) (by decide) (by decide) (by decide) (hb hby at_315) (q := 318) rfl (fun T142 X143 e144 => ?_)
            refine own_if0P X143 hx (hb hby at_318) (cd := .eq) (x := own_f2 (1 : Int32) (2 : Int32) z132 (((XT.ushr p5 (2 : Int32)) &&& (3 : Int32)) % (3 : Int32)) (own_sel q1 z1 z8 r) q1 z1 z8) (pt := 359) (q := 321) (by decide) (by decide) rfl rfl (fun h => False.elim (((own_fin2 _ _ _ _ _ _ _ _ hr rfl (by rw [hz138, hz131])).2.2 : ¬ ((own_f2 (1 : Int32) (2 : Int32) z132 (((XT.ushr p5 (2 : Int32)) &&& (3 : Int32)) % (3 : Int32)) (own_sel q1 z1 z8 r) q1 z1 z8) = (0 : Int32))) h)) (fun _ => ?_)
            refine own_iconst X143 hx (v := (2 : Int32)) (hb hby at_321) (q := 322) rfl rfl ?_
            refine own_iload X143 hx (hb hby at_322) (q := 324) rfl rfl ?_
            refine own_iload X143 hx (hb hby at_324) (q := 326) rfl rfl ?_
            refine own_iload X143 hx (hb hby at_326) (q := 328) rfl rfl ?_
            refine own_aload X143 hx (hb hby at_328) (q := 330) rfl rfl rfl ?_
            refine own_lload X143 hx (hb hby at_330) (q := 332) rfl rfl ?_
            refine own_callSP X143 hx hZ hown (hw _ (List.mem_of_getElem? (i := 6) rfl)) (hw _ (List.mem_of_getElem? (i := 7) rfl)) (hw _ (List.mem_of_getElem? (i := 8) rfl)) (hw _ (List.mem_of_getElem? (i := 9) rfl)) (by decide) (rm2 l Z a0 hw [] (2 : Int32) (2 : Int32) z132 (((XT.ushr p5 (4 : Int32)) &&& (3 : Int32)) % (3 : Int32)) a19 (own_sel q1 z1 z8 r) q1 z1 z8 h116 A119 (own_m3 _)) own_pd1 rfl e144 (by rw [hml]; rfl) (argsL := [.int (2 : Int32), .int (2 : Int32), .int z132, .int (((XT.ushr p5 (4 : Int32)) &&& (3 : Int32)) % (3 : Int32)), .ref a19, .long (own_sel q1 z1 z8 r)]) (st := []) rfl (W := 0) (Nat.le_of_eq rfl) (by decide) (by decide) (by decide) (by decide) (hb hby at_332) (q := 335) rfl (fun T145 X146 e147 => ?_)
            refine own_if0P X146 hx (hb hby at_335) (cd := .eq) (x := own_f2 (2 : Int32) (2 : Int32) z132 (((XT.ushr p5 (4 : Int32)) &&& (3 : Int32)) % (3 : Int32)) (own_sel q1 z1 z8 r) q1 z1 z8) (pt := 359) (q := 338) (by decide) (by decide) rfl rfl (fun h => False.elim (((by rw [own_f2, if_neg (by decide)]; decide) : ¬ ((own_f2 (2 : Int32) (2 : Int32) z132 (((XT.ushr p5 (4 : Int32)) &&& (3 : Int32)) % (3 : Int32)) (own_sel q1 z1 z8 r) q1 z1 z8) = (0 : Int32))) h)) (fun _ => ?_)
            refine own_iconst X146 hx (v := (3 : Int32)) (hb hby at_338) (q := 339) rfl rfl ?_
            refine own_iload X146 hx (hb hby at_339) (q := 341) rfl rfl ?_
            refine own_iload X146 hx (hb hby at_341) (q := 343) rfl rfl ?_
            refine own_iload X146 hx (hb hby at_343) (q := 345) rfl rfl ?_
            refine own_aload X146 hx (hb hby at_345) (q := 347) rfl rfl rfl ?_
            refine own_lload X146 hx (hb hby at_347) (q := 349) rfl rfl ?_
            refine own_callSP X146 hx hZ hown (hw _ (List.mem_of_getElem? (i := 6) rfl)) (hw _ (List.mem_of_getElem? (i := 7) rfl)) (hw _ (List.mem_of_getElem? (i := 8) rfl)) (hw _ (List.mem_of_getElem? (i := 9) rfl)) (by decide) (rm2 l Z a0 hw [] (3 : Int32) (2 : Int32) z132 (((XT.ushr p5 (6 : Int32)) &&& (3 : Int32)) % (3 : Int32)) a19 (own_sel q1 z1 z8 r) q1 z1 z8 h116 A119 (own_m3 _)) own_pd1 rfl e147 (by rw [hml]; rfl) (argsL := [.int (3 : Int32), .int (2 : Int32), .int z132, .int (((XT.ushr p5 (6 : Int32)) &&& (3 : Int32)) % (3 : Int32)), .ref a19, .long (own_sel q1 z1 z8 r)]) (st := []) rfl (W := 0) (Nat.le_of_eq rfl) (by decide) (by decide) (by decide) (by decide) (hb hby at_349) (q := 352) rfl (fun T148 X149 e150 => ?_)
            refine own_if0P X149 hx (hb hby at_352) (cd := .eq) (x := own_f2 (3 : Int32) (2 : Int32) z132 (((XT.ushr p5 (6 : Int32)) &&& (3 : Int32)) % (3 : Int32)) (own_sel q1 z1 z8 r) q1 z1 z8) (pt := 359) (q := 355) (by decide) (by decide) rfl rfl (fun h => False.elim (((by rw [own_f2, if_neg (by decide)]; decide) : ¬ ((own_f2 (3 : Int32) (2 : Int32) z132 (((XT.ushr p5 (6 : Int32)) &&& (3 : Int32)) % (3 : Int32)) (own_sel q1 z1 z8 r) q1 z1 z8) = (0 : Int32))) h)) (fun _ => ?_)
            refine own_iconst X149 hx (v := (1 : Int32)) (hb hby at_355) (q := 356) rfl rfl ?_
            refine own_goto X149 hx (hb hby at_356) (q := 360) (by decide) (by decide) ?_
            refine own_retN X149 hx hlk (t := .boolean) (by simp) Bd.returns (hb hby at_360) ?_ (by decide) (by decide)
            exact ⟨rfl, N121⟩
          refine own_icmpM X123 hx (hb hby at_265) (cd := .ne) (x := (p5 &&& (3 : Int32)) % (3 : Int32)) (y := r) (pt := 271) (q := 268) (by decide) (by decide) rfl rfl (fun (c39 : ¬ (((p5 &&& (3 : Int32)) % (3 : Int32)) = r)) => ?_) (fun (c39 : ((p5 &&& (3 : Int32)) % (3 : Int32)) = r) => ?_)
          · exact J133 _ (by rw [if_neg c39])
          · refine own_iconst X123 hx (v := (0 : Int32)) (hb hby at_268) (q := 269) rfl rfl ?_
            refine own_istore (L' := #[.val (.long q1), .second, .val (.long q2), .second, .val (.long q3), .second, .val (.int p4), .val (.int p5), .val (.int (2 : Int32)), .val (.int (XT.ushr p4 (2 : Int32))), .val (.long q1), .second, .val (.long z1), .second, .val (.long z8), .second, .val (.ref a19), .val (.int ((p5 &&& (3 : Int32)) % (3 : Int32))), .val (.int (((XT.ushr p5 (2 : Int32)) &&& (3 : Int32)) % (3 : Int32))), .val (.int (((XT.ushr p5 (4 : Int32)) &&& (3 : Int32)) % (3 : Int32))), .val (.int (((XT.ushr p5 (6 : Int32)) &&& (3 : Int32)) % (3 : Int32))), .val (.ref a96), .val (.int r), .val (.int (0 : Int32)), .unset, .unset]) X123 hx (hb hby at_269) (q := 271) rfl rfl ?_
            exact J133 _ (by rw [if_pos c39])
        refine own_icmpM X123 hx (hb hby at_255) (cd := .ne) (x := ((XT.ushr p5 (2 : Int32)) &&& (3 : Int32)) % (3 : Int32)) (y := r) (pt := 261) (q := 258) (by decide) (by decide) rfl rfl (fun (c40 : ¬ ((((XT.ushr p5 (2 : Int32)) &&& (3 : Int32)) % (3 : Int32)) = r)) => ?_) (fun (c40 : (((XT.ushr p5 (2 : Int32)) &&& (3 : Int32)) % (3 : Int32)) = r) => ?_)
        · exact J126 _ (by rw [if_neg c40])
        · refine own_iconst X123 hx (v := (1 : Int32)) (hb hby at_258) (q := 259) rfl rfl ?_
          refine own_istore (L' := #[.val (.long q1), .second, .val (.long q2), .second, .val (.long q3), .second, .val (.int p4), .val (.int p5), .val (.int (2 : Int32)), .val (.int (XT.ushr p4 (2 : Int32))), .val (.long q1), .second, .val (.long z1), .second, .val (.long z8), .second, .val (.ref a19), .val (.int ((p5 &&& (3 : Int32)) % (3 : Int32))), .val (.int (((XT.ushr p5 (2 : Int32)) &&& (3 : Int32)) % (3 : Int32))), .val (.int (((XT.ushr p5 (4 : Int32)) &&& (3 : Int32)) % (3 : Int32))), .val (.int (((XT.ushr p5 (6 : Int32)) &&& (3 : Int32)) % (3 : Int32))), .val (.ref a96), .val (.int r), .val (.int (1 : Int32)), .unset, .unset]) X123 hx (hb hby at_259) (q := 261) rfl rfl ?_
          exact J126 _ (by rw [if_pos c40])
      · rw [hn]
        refine own_iload X42 hx (hb hby at_107) (q := 109) rfl rfl ?_
        refine own_newA X42 hx hZ (aty := .int) (ty := .int) (k := 3) (cap := 3) rfl (hw _ (List.mem_of_getElem? (i := 1) rfl)) e43 (by decide) (by decide) (by decide) (by decide) (by decide) (by decide) (hb hby at_109) (q := 111) rfl (fun T151 h154 a155 X152 e153 g156 E157 A158 => ?_)
        have A159 := A46.ext E157
        have ne160 : a19 ≠ a155 := by rw [g156]; exact Nat.ne_of_lt A46.lt
        have Z161 : n0 ≤ a155 := by rw [g156]; exact Z47
        have Z162 : n0 ≤ h154.size := Nat.le_trans Z47 E157.1
        replace A158 : own_A Z h154 a155 .int [.int (0 : Int32), .int (0 : Int32), .int (0 : Int32)] := A158
        refine own_astore (L' := #[.val (.long q1), .second, .val (.long q2), .second, .val (.long q3), .second, .val (.int p4), .val (.int p5), .val (.int (3 : Int32)), .val (.int (XT.ushr p4 (2 : Int32))), .val (.long q1), .second, .val (.long z1), .second, .val (.long z8), .second, .val (.ref a19), .val (.int ((p5 &&& (3 : Int32)) % (3 : Int32))), .val (.int (((XT.ushr p5 (2 : Int32)) &&& (3 : Int32)) % (3 : Int32))), .val (.int (((XT.ushr p5 (4 : Int32)) &&& (3 : Int32)) % (3 : Int32))), .val (.int (((XT.ushr p5 (6 : Int32)) &&& (3 : Int32)) % (3 : Int32))), .val (.ref a155), .unset, .unset, .unset, .unset]) X152 hx (hb hby at_111) (q := 113) rfl rfl rfl ?_
        refine own_aload X152 hx (hb hby at_113) (q := 115) rfl rfl rfl ?_
        refine own_iconst X152 hx (v := (0 : Int32)) (hb hby at_115) (q := 116) rfl rfl ?_
        refine own_iload X152 hx (hb hby at_116) (q := 118) rfl rfl ?_
        refine own_iastore X152 hx hZ (i := 0) e153 A158 (by decide) (by decide) (Nat.le_of_ble_eq_true rfl) (hb hby at_118) (q := 119) rfl (fun T163 h166 X164 e165 W167 A168 => ?_)
        replace A168 : own_A Z h166 a155 .int [.int ((p5 &&& (3 : Int32)) % (3 : Int32)), .int (0 : Int32), .int (0 : Int32)] := A168
        have A169 := A159.other W167 ne160
        have Z170 : n0 ≤ h166.size := W167.size ▸ Z162
        have N171 := Fr.snoc X164 N48 Z161
        refine own_iload X164 hx (hb hby at_119) (q := 121) rfl rfl ?_
        refine own_iconst X164 hx (v := (1 : Int32)) (hb hby at_121) (q := 122) rfl rfl ?_
        refine own_icmpM X164 hx (hb hby at_122) (cd := .le) (x := (3 : Int32)) (y := (1 : Int32)) (pt := 131) (q := 125) (by decide) (by decide) rfl rfl (fun h => False.elim (h ((by decide) : (1 : Int32) < (3 : Int32)))) (fun _ => ?_)
        refine own_aload X164 hx (hb hby at_125) (q := 127) rfl rfl rfl ?_
        refine own_iconst X164 hx (v := (1 : Int32)) (hb hby at_127) (q := 128) rfl rfl ?_
        refine own_iload X164 hx (hb hby at_128) (q := 130) rfl rfl ?_
        refine own_iastore X164 hx hZ (i := 1) e165 A168 (by decide) (by decide) (Nat.le_of_ble_eq_true rfl) (hb hby at_130) (q := 131) rfl (fun T172 h175 X173 e174 W176 A177 => ?_)
        replace A177 : own_A Z h175 a155 .int [.int ((p5 &&& (3 : Int32)) % (3 : Int32)), .int (((XT.ushr p5 (2 : Int32)) &&& (3 : Int32)) % (3 : Int32)), .int (0 : Int32)] := A177
        have A178 := A169.other W176 ne160
        have Z179 : n0 ≤ h175.size := W176.size ▸ Z170
        have N180 := Fr.snoc X173 N171 Z161
        refine own_iload X173 hx (hb hby at_131) (q := 133) rfl rfl ?_
        refine own_iconst X173 hx (v := (2 : Int32)) (hb hby at_133) (q := 134) rfl rfl ?_
        refine own_icmpM X173 hx (hb hby at_134) (cd := .le) (x := (3 : Int32)) (y := (2 : Int32)) (pt := 143) (q := 137) (by decide) (by decide) rfl rfl (fun h => False.elim (h ((by decide) : (2 : Int32) < (3 : Int32)))) (fun _ => ?_)
        refine own_aload X173 hx (hb hby at_137) (q := 139) rfl rfl rfl ?_
        refine own_iconst X173 hx (v := (2 : Int32)) (hb hby at_139) (q := 140) rfl rfl ?_
        refine own_iload X173 hx (hb hby at_140) (q := 142) rfl rfl ?_
        refine own_iastore X173 hx hZ (i := 2) e174 A177 (by decide) (by decide) (Nat.le_of_ble_eq_true rfl) (hb hby at_142) (q := 143) rfl (fun T181 h184 X182 e183 W185 A186 => ?_)
        replace A186 : own_A Z h184 a155 .int [.int ((p5 &&& (3 : Int32)) % (3 : Int32)), .int (((XT.ushr p5 (2 : Int32)) &&& (3 : Int32)) % (3 : Int32)), .int (((XT.ushr p5 (4 : Int32)) &&& (3 : Int32)) % (3 : Int32))] := A186
        have A187 := A178.other W185 ne160
        have Z188 : n0 ≤ h184.size := W185.size ▸ Z179
        have N189 := Fr.snoc X182 N180 Z161
        refine own_iload X182 hx (hb hby at_143) (q := 145) rfl rfl ?_
        refine own_iconst X182 hx (v := (3 : Int32)) (hb hby at_145) (q := 146) rfl rfl ?_
        refine own_icmpM X182 hx (hb hby at_146) (cd := .le) (x := (3 : Int32)) (y := (3 : Int32)) (pt := 155) (q := 149) (by decide) (by decide) rfl rfl (fun _ => ?_) (fun h => False.elim (((by decide) : ¬ ((3 : Int32) < (3 : Int32))) h))
        refine own_aload X182 hx (hb hby at_155) (q := 157) rfl rfl rfl ?_
        refine own_aload X182 hx (hb hby at_157) (q := 159) rfl rfl rfl ?_
        refine own_callSP X182 hx hZ hown (hw _ (List.mem_of_getElem? (i := 2) rfl)) (hw _ (List.mem_of_getElem? (i := 3) rfl)) (hw _ (List.mem_of_getElem? (i := 4) rfl)) (hw _ (List.mem_of_getElem? (i := 5) rfl)) (by decide) (rm1_3 l Z a0 hw [] a155 a19 ((p5 &&& (3 : Int32)) % (3 : Int32)) (((XT.ushr p5 (2 : Int32)) &&& (3 : Int32)) % (3 : Int32)) (((XT.ushr p5 (4 : Int32)) &&& (3 : Int32)) % (3 : Int32)) q1 z1 z8 h184 A186 A187 (own_m3 _) (own_m3 _) (own_m3 _)) own_pd0 rfl e183 (by rw [hml]; rfl) (argsL := [.ref a155, .ref a19]) (st := []) rfl (W := 0) (Nat.le_of_eq rfl) (by decide) (by decide) (by decide) (by decide) (hb hby at_159) (q := 162) rfl (fun T190 X191 e192 => ?_)
        obtain ⟨r, hr⟩ : ∃ r, r = own_f1_3 ((p5 &&& (3 : Int32)) % (3 : Int32)) (((XT.ushr p5 (2 : Int32)) &&& (3 : Int32)) % (3 : Int32)) (((XT.ushr p5 (4 : Int32)) &&& (3 : Int32)) % (3 : Int32)) q1 z1 z8 := ⟨_, rfl⟩
        rw [← hr]
        have hr3 : r = 0 ∨ r = 1 ∨ r = 2 := by rw [hr]; exact own_r3 _ _ _ _ _ _ (own_m3 _) (own_m3 _) (own_m3 _)
        have hr0 : ¬ r < 0 := own_selN hr3
        have hr2 : ¬ (2 : Int32) < r := by rcases hr3 with h | h | h <;> rw [h] <;> decide
        refine own_istore (L' := #[.val (.long q1), .second, .val (.long q2), .second, .val (.long q3), .second, .val (.int p4), .val (.int p5), .val (.int (3 : Int32)), .val (.int (XT.ushr p4 (2 : Int32))), .val (.long q1), .second, .val (.long z1), .second, .val (.long z8), .second, .val (.ref a19), .val (.int ((p5 &&& (3 : Int32)) % (3 : Int32))), .val (.int (((XT.ushr p5 (2 : Int32)) &&& (3 : Int32)) % (3 : Int32))), .val (.int (((XT.ushr p5 (4 : Int32)) &&& (3 : Int32)) % (3 : Int32))), .val (.int (((XT.ushr p5 (6 : Int32)) &&& (3 : Int32)) % (3 : Int32))), .val (.ref a155), .val (.int r), .unset, .unset, .unset]) X191 hx (hb hby at_162) (q := 164) rfl rfl ?_
        refine own_iload X191 hx (hb hby at_164) (q := 166) rfl rfl ?_
        refine own_if0P X191 hx (hb hby at_166) (cd := .lt) (x := r) (pt := 175) (q := 169) (by decide) (by decide) rfl rfl (fun h => False.elim ((hr0 : ¬ (r < (0 : Int32))) h)) (fun _ => ?_)
        refine own_iload X191 hx (hb hby at_169) (q := 171) rfl rfl ?_
        refine own_iconst X191 hx (v := (2 : Int32)) (hb hby at_171) (q := 172) rfl rfl ?_
        refine own_icmpM X191 hx (hb hby at_172) (cd := .le) (x := r) (y := (2 : Int32)) (pt := 177) (q := 175) (by decide) (by decide) rfl rfl (fun _ => ?_) (fun h => False.elim ((hr2 : ¬ ((2 : Int32) < r)) h))
        refine own_aload X191 hx (hb hby at_177) (q := 179) rfl rfl rfl ?_
        refine own_iconst X191 hx (v := (0 : Int32)) (hb hby at_179) (q := 180) rfl rfl ?_
        refine own_laload X191 hx hZ (i := 0) (v := .long q1) e192 A187 (by decide) (by decide) rfl (hb hby at_180) (q := 181) rfl ?_
        refine own_lload X191 hx (hb hby at_181) (q := 183) rfl rfl ?_
        refine own_lcmp X191 hx (hb hby at_183) (q := 184) rfl ?_
        refine own_ifLM X191 hx (hb hby at_184) (cd := .ne) (x := q1) (y := q1) (pt := 207) (q := 187) (by decide) (by decide) rfl rfl (fun h => False.elim (h (rfl : q1 = q1))) (fun _ => ?_)
        refine own_aload X191 hx (hb hby at_187) (q := 189) rfl rfl rfl ?_
        refine own_iconst X191 hx (v := (1 : Int32)) (hb hby at_189) (q := 190) rfl rfl ?_
        refine own_laload X191 hx hZ (i := 1) (v := .long z1) e192 A187 (by decide) (by decide) rfl (hb hby at_190) (q := 191) rfl ?_
        refine own_lload X191 hx (hb hby at_191) (q := 193) rfl rfl ?_
        refine own_lcmp X191 hx (hb hby at_193) (q := 194) rfl ?_
        refine own_ifLM X191 hx (hb hby at_194) (cd := .ne) (x := z1) (y := z1) (pt := 207) (q := 197) (by decide) (by decide) rfl rfl (fun h => False.elim (h (rfl : z1 = z1))) (fun _ => ?_)
        refine own_aload X191 hx (hb hby at_197) (q := 199) rfl rfl rfl ?_
        refine own_iconst X191 hx (v := (2 : Int32)) (hb hby at_199) (q := 200) rfl rfl ?_
        refine own_laload X191 hx hZ (i := 2) (v := .long z8) e192 A187 (by decide) (by decide) rfl (hb hby at_200) (q := 201) rfl ?_
        refine own_lload X191 hx (hb hby at_201) (q := 203) rfl rfl ?_
        refine own_lcmp X191 hx (hb hby at_203) (q := 204) rfl ?_
        refine own_ifLP X191 hx (hb hby at_204) (cd := .eq) (x := z8) (y := z8) (pt := 209) (q := 207) (by decide) (by decide) rfl rfl (fun _ => ?_) (fun h => False.elim (h (rfl : z8 = z8)))
        refine own_iload X191 hx (hb hby at_209) (q := 211) rfl rfl ?_
        refine own_istore (L' := #[.val (.long q1), .second, .val (.long q2), .second, .val (.long q3), .second, .val (.int p4), .val (.int p5), .val (.int (3 : Int32)), .val (.int (XT.ushr p4 (2 : Int32))), .val (.long q1), .second, .val (.long z1), .second, .val (.long z8), .second, .val (.ref a19), .val (.int ((p5 &&& (3 : Int32)) % (3 : Int32))), .val (.int (((XT.ushr p5 (2 : Int32)) &&& (3 : Int32)) % (3 : Int32))), .val (.int (((XT.ushr p5 (4 : Int32)) &&& (3 : Int32)) % (3 : Int32))), .val (.int (((XT.ushr p5 (6 : Int32)) &&& (3 : Int32)) % (3 : Int32))), .val (.ref a155), .val (.int r), .val (.int (3 : Int32)), .unset, .unset]) X191 hx (hb hby at_211) (q := 213) rfl rfl ?_
        refine own_iload X191 hx (hb hby at_213) (q := 215) rfl rfl ?_
        refine own_iconst X191 hx (v := (3 : Int32)) (hb hby at_215) (q := 216) rfl rfl ?_
        refine own_icmpM X191 hx (hb hby at_216) (cd := .le) (x := (3 : Int32)) (y := (3 : Int32)) (pt := 229) (q := 219) (by decide) (by decide) rfl rfl (fun _ => ?_) (fun h => False.elim (((by decide) : ¬ ((3 : Int32) < (3 : Int32))) h))
        refine own_iload X191 hx (hb hby at_229) (q := 231) rfl rfl ?_
        refine own_iconst X191 hx (v := (2 : Int32)) (hb hby at_231) (q := 232) rfl rfl ?_
        refine own_icmpM X191 hx (hb hby at_232) (cd := .le) (x := (3 : Int32)) (y := (2 : Int32)) (pt := 245) (q := 235) (by decide) (by decide) rfl rfl (fun h => False.elim (h ((by decide) : (2 : Int32) < (3 : Int32)))) (fun _ => ?_)
        refine own_iload X191 hx (hb hby at_235) (q := 237) rfl rfl ?_
        refine own_iload X191 hx (hb hby at_237) (q := 239) rfl rfl ?_
        have J194 : ∀ (z193 : Int32), z193 = (if (((XT.ushr p5 (4 : Int32)) &&& (3 : Int32)) % (3 : Int32)) = r then (2 : Int32) else (3 : Int32)) → own_Go p e below s 16 128 (own_Q0 n0) (T190.setTop (mkF m 245 #[.val (.long q1), .second, .val (.long q2), .second, .val (.long q3), .second, .val (.int p4), .val (.int p5), .val (.int (3 : Int32)), .val (.int (XT.ushr p4 (2 : Int32))), .val (.long q1), .second, .val (.long z1), .second, .val (.long z8), .second, .val (.ref a19), .val (.int ((p5 &&& (3 : Int32)) % (3 : Int32))), .val (.int (((XT.ushr p5 (2 : Int32)) &&& (3 : Int32)) % (3 : Int32))), .val (.int (((XT.ushr p5 (4 : Int32)) &&& (3 : Int32)) % (3 : Int32))), .val (.int (((XT.ushr p5 (6 : Int32)) &&& (3 : Int32)) % (3 : Int32))), .val (.ref a155), .val (.int r), .val (.int z193), .unset, .unset] [])) := by
          intro z193 hz199
          refine own_iload X191 hx (hb hby at_245) (q := 247) rfl rfl ?_
          refine own_iconst X191 hx (v := (1 : Int32)) (hb hby at_247) (q := 248) rfl rfl ?_
          refine own_icmpM X191 hx (hb hby at_248) (cd := .le) (x := (3 : Int32)) (y := (1 : Int32)) (pt := 261) (q := 251) (by decide) (by decide) rfl rfl (fun h => False.elim (h ((by decide) : (1 : Int32) < (3 : Int32)))) (fun _ => ?_)
          refine own_iload X191 hx (hb hby at_251) (q := 253) rfl rfl ?_
          refine own_iload X191 hx (hb hby at_253) (q := 255) rfl rfl ?_
          have J201 : ∀ (z200 : Int32), z200 = (if (((XT.ushr p5 (2 : Int32)) &&& (3 : Int32)) % (3 : Int32)) = r then (1 : Int32) else z193) → own_Go p e below s 16 128 (own_Q0 n0) (T190.setTop (mkF m 261 #[.val (.long q1), .second, .val (.long q2), .second, .val (.long q3), .second, .val (.int p4), .val (.int p5), .val (.int (3 : Int32)), .val (.int (XT.ushr p4 (2 : Int32))), .val (.long q1), .second, .val (.long z1), .second, .val (.long z8), .second, .val (.ref a19), .val (.int ((p5 &&& (3 : Int32)) % (3 : Int32))), .val (.int (((XT.ushr p5 (2 : Int32)) &&& (3 : Int32)) % (3 : Int32))), .val (.int (((XT.ushr p5 (4 : Int32)) &&& (3 : Int32)) % (3 : Int32))), .val (.int (((XT.ushr p5 (6 : Int32)) &&& (3 : Int32)) % (3 : Int32))), .val (.ref a155), .val (.int r), .val (.int z200), .unset, .unset] [])) := by
            intro z200 hz206
            refine own_iload X191 hx (hb hby at_261) (q := 263) rfl rfl ?_
            refine own_iload X191 hx (hb hby at_263) (q := 265) rfl rfl ?_
            have J208 : ∀ (z207 : Int32), z207 = (if ((p5 &&& (3 : Int32)) % (3 : Int32)) = r then (0 : Int32) else z200) → own_Go p e below s 16 128 (own_Q0 n0) (T190.setTop (mkF m 271 #[.val (.long q1), .second, .val (.long q2), .second, .val (.long q3), .second, .val (.int p4), .val (.int p5), .val (.int (3 : Int32)), .val (.int (XT.ushr p4 (2 : Int32))), .val (.long q1), .second, .val (.long z1), .second, .val (.long z8), .second, .val (.ref a19), .val (.int ((p5 &&& (3 : Int32)) % (3 : Int32))), .val (.int (((XT.ushr p5 (2 : Int32)) &&& (3 : Int32)) % (3 : Int32))), .val (.int (((XT.ushr p5 (4 : Int32)) &&& (3 : Int32)) % (3 : Int32))), .val (.int (((XT.ushr p5 (6 : Int32)) &&& (3 : Int32)) % (3 : Int32))), .val (.ref a155), .val (.int r), .val (.int z207), .unset, .unset] [])) := by
              intro z207 hz213
              refine own_iload X191 hx (hb hby at_271) (q := 273) rfl rfl ?_
              refine own_iload X191 hx (hb hby at_273) (q := 275) rfl rfl ?_
              refine own_icmpM X191 hx (hb hby at_275) (cd := .ne) (x := z207) (y := (3 : Int32)) (pt := 280) (q := 278) (by decide) (by decide) rfl rfl (fun _ => ?_) (fun h => False.elim (((own_fin3 _ _ _ _ _ _ _ _ _ hr rfl (by rw [hz213, hz206, hz199])).1 : ¬ (z207 = (3 : Int32))) h))
              refine own_aload X191 hx (hb hby at_280) (q := 282) rfl rfl rfl ?_
              refine own_iload X191 hx (hb hby at_282) (q := 284) rfl rfl ?_
              refine own_laload X191 hx hZ (i := (r).toNatClampNeg) (v := .long (own_sel q1 z1 z8 r)) e192 A187 (own_selN hr3) rfl (own_selV hr3) (hb hby at_284) (q := 285) rfl ?_
              refine own_lstore (L' := #[.val (.long q1), .second, .val (.long q2), .second, .val (.long q3), .second, .val (.int p4), .val (.int p5), .val (.int (3 : Int32)), .val (.int (XT.ushr p4 (2 : Int32))), .val (.long q1), .second, .val (.long z1), .second, .val (.long z8), .second, .val (.ref a19), .val (.int ((p5 &&& (3 : Int32)) % (3 : Int32))), .val (.int (((XT.ushr p5 (2 : Int32)) &&& (3 : Int32)) % (3 : Int32))), .val (.int (((XT.ushr p5 (4 : Int32)) &&& (3 : Int32)) % (3 : Int32))), .val (.int (((XT.ushr p5 (6 : Int32)) &&& (3 : Int32)) % (3 : Int32))), .val (.ref a155), .val (.int r), .val (.int z207), .val (.long (own_sel q1 z1 z8 r)), .second]) X191 hx (hb hby at_285) (q := 287) rfl rfl ?_
              refine own_iconst X191 hx (v := (0 : Int32)) (hb hby at_287) (q := 288) rfl rfl ?_
              refine own_iload X191 hx (hb hby at_288) (q := 290) rfl rfl ?_
              refine own_iload X191 hx (hb hby at_290) (q := 292) rfl rfl ?_
              refine own_iload X191 hx (hb hby at_292) (q := 294) rfl rfl ?_
              refine own_aload X191 hx (hb hby at_294) (q := 296) rfl rfl rfl ?_
              refine own_lload X191 hx (hb hby at_296) (q := 298) rfl rfl ?_
              refine own_callSP X191 hx hZ hown (hw _ (List.mem_of_getElem? (i := 6) rfl)) (hw _ (List.mem_of_getElem? (i := 7) rfl)) (hw _ (List.mem_of_getElem? (i := 8) rfl)) (hw _ (List.mem_of_getElem? (i := 9) rfl)) (by decide) (rm2 l Z a0 hw [] (0 : Int32) (3 : Int32) z207 ((p5 &&& (3 : Int32)) % (3 : Int32)) a19 (own_sel q1 z1 z8 r) q1 z1 z8 h184 A187 (own_m3 _)) own_pd1 rfl e192 (by rw [hml]; rfl) (argsL := [.int (0 : Int32), .int (3 : Int32), .int z207, .int ((p5 &&& (3 : Int32)) % (3 : Int32)), .ref a19, .long (own_sel q1 z1 z8 r)]) (st := []) rfl (W := 0) (Nat.le_of_eq rfl) (by decide) (by decide) (by decide) (by decide) (hb hby at_298) (q := 301) rfl (fun T214 X215 e216 => ?_)
              refine own_if0P X215 hx (hb hby at_301) (cd := .eq) (x := own_f2 (0 : Int32) (3 : Int32) z207 ((p5 &&& (3 : Int32)) % (3 : Int32)) (own_sel q1 z1 z8 r) q1 z1 z8) (pt := 359) (q := 304) (by decide) (by decide) rfl rfl (fun h => False.elim (((own_fin3 _ _ _ _ _ _ _ _ _ hr rfl (by rw [hz213, hz206, hz199])).2.1 : ¬ ((own_f2 (0 : Int32) (3 : Int32) z207 ((p5 &&& (3 : Int32)) % (3 : Int32)) (own_sel q1 z1 z8 r) q1 z1 z8) = (0 : Int32))) h)) (fun _ => ?_)
              refine own_iconst X215 hx (v := (1 : Int32)) (hb hby at_304) (q := 305) rfl rfl ?_
              refine own_iload X215 hx (hb hby at_305) (q := 307) rfl rfl ?_
              refine own_iload X215 hx (hb hby at_307) (q := 309) rfl rfl ?_
              refine own_iload X215 hx (hb hby at_309) (q := 311) rfl rfl ?_
              refine own_aload X215 hx (hb hby at_311) (q := 313) rfl rfl rfl ?_
              refine own_lload X215 hx (hb hby at_313) (q := 315) rfl rfl ?_
              refine own_callSP X215 hx hZ hown (hw _ (List.mem_of_getElem? (i := 6) rfl)) (hw _ (List.mem_of_getElem? (i := 7) rfl)) (hw _ (List.mem_of_getElem? (i := 8) rfl)) (hw _ (List.mem_of_getElem? (i := 9) rfl)) (by decide) (rm2 l Z a0 hw [] (1 : Int32) (3 : Int32) z207 (((XT.ushr p5 (2 : Int32)) &&& (3 : Int32)) % (3 : Int32)) a19 (own_sel q1 z1 z8 r) q1 z1 z8 h184 A187 (own_m3 _)) own_pd1 rfl e216 (by rw [hml]; rfl) (argsL := [.int (1 : Int32), .int (3 : Int32), .int z207, .int (((XT.ushr p5 (2 : Int32)) &&& (3 : Int32)) % (3 : Int32)), .ref a19, .long (own_sel q1 z1 z8 r)]) (st := []) rfl (W := 0) (Nat.le_of_eq rfl) (by decide) (by decide) (by decide) (by decide) (hb hby at_315) (q := 318) rfl (fun T217 X218 e219 => ?_)
              refine own_if0P X218 hx (hb hby at_318) (cd := .eq) (x := own_f2 (1 : Int32) (3 : Int32) z207 (((XT.ushr p5 (2 : Int32)) &&& (3 : Int32)) % (3 : Int32)) (own_sel q1 z1 z8 r) q1 z1 z8) (pt := 359) (q := 321) (by decide) (by decide) rfl rfl (fun h => False.elim (((own_fin3 _ _ _ _ _ _ _ _ _ hr rfl (by rw [hz213, hz206, hz199])).2.2.1 : ¬ ((own_f2 (1 : Int32) (3 : Int32) z207 (((XT.ushr p5 (2 : Int32)) &&& (3 : Int32)) % (3 : Int32)) (own_sel q1 z1 z8 r) q1 z1 z8) = (0 : Int32))) h)) (fun _ => ?_)
              refine own_iconst X218 hx (v := (2 : Int32)) (hb hby at_321) (q := 322) rfl rfl ?_
              refine own_iload X218 hx (hb hby at_322) (q := 324) rfl rfl ?_
              refine own_iload X218 hx (hb hby at_324) (q := 326) rfl rfl ?_
              refine own_iload X218 hx (hb hby at_326) (q := 328) rfl rfl ?_
              refine own_aload X218 hx (hb hby at_328) (q := 330) rfl rfl rfl ?_
              refine own_lload X218 hx (hb hby at_330) (q := 332) rfl rfl ?_
              refine own_callSP X218 hx hZ hown (hw _ (List.mem_of_getElem? (i := 6) rfl)) (hw _ (List.mem_of_getElem? (i := 7) rfl)) (hw _ (List.mem_of_getElem? (i := 8) rfl)) (hw _ (List.mem_of_getElem? (i := 9) rfl)) (by decide) (rm2 l Z a0 hw [] (2 : Int32) (3 : Int32) z207 (((XT.ushr p5 (4 : Int32)) &&& (3 : Int32)) % (3 : Int32)) a19 (own_sel q1 z1 z8 r) q1 z1 z8 h184 A187 (own_m3 _)) own_pd1 rfl e219 (by rw [hml]; rfl) (argsL := [.int (2 : Int32), .int (3 : Int32), .int z207, .int (((XT.ushr p5 (4 : Int32)) &&& (3 : Int32)) % (3 : Int32)), .ref a19, .long (own_sel q1 z1 z8 r)]) (st := []) rfl (W := 0) (Nat.le_of_eq rfl) (by decide) (by decide) (by decide) (by decide) (hb hby at_332) (q := 335) rfl (fun T220 X221 e222 => ?_)
              refine own_if0P X221 hx (hb hby at_335) (cd := .eq) (x := own_f2 (2 : Int32) (3 : Int32) z207 (((XT.ushr p5 (4 : Int32)) &&& (3 : Int32)) % (3 : Int32)) (own_sel q1 z1 z8 r) q1 z1 z8) (pt := 359) (q := 338) (by decide) (by decide) rfl rfl (fun h => False.elim (((own_fin3 _ _ _ _ _ _ _ _ _ hr rfl (by rw [hz213, hz206, hz199])).2.2.2 : ¬ ((own_f2 (2 : Int32) (3 : Int32) z207 (((XT.ushr p5 (4 : Int32)) &&& (3 : Int32)) % (3 : Int32)) (own_sel q1 z1 z8 r) q1 z1 z8) = (0 : Int32))) h)) (fun _ => ?_)
              refine own_iconst X221 hx (v := (3 : Int32)) (hb hby at_338) (q := 339) rfl rfl ?_
              refine own_iload X221 hx (hb hby at_339) (q := 341) rfl rfl ?_
              refine own_iload X221 hx (hb hby at_341) (q := 343) rfl rfl ?_
              refine own_iload X221 hx (hb hby at_343) (q := 345) rfl rfl ?_
              refine own_aload X221 hx (hb hby at_345) (q := 347) rfl rfl rfl ?_
              refine own_lload X221 hx (hb hby at_347) (q := 349) rfl rfl ?_
              refine own_callSP X221 hx hZ hown (hw _ (List.mem_of_getElem? (i := 6) rfl)) (hw _ (List.mem_of_getElem? (i := 7) rfl)) (hw _ (List.mem_of_getElem? (i := 8) rfl)) (hw _ (List.mem_of_getElem? (i := 9) rfl)) (by decide) (rm2 l Z a0 hw [] (3 : Int32) (3 : Int32) z207 (((XT.ushr p5 (6 : Int32)) &&& (3 : Int32)) % (3 : Int32)) a19 (own_sel q1 z1 z8 r) q1 z1 z8 h184 A187 (own_m3 _)) own_pd1 rfl e222 (by rw [hml]; rfl) (argsL := [.int (3 : Int32), .int (3 : Int32), .int z207, .int (((XT.ushr p5 (6 : Int32)) &&& (3 : Int32)) % (3 : Int32)), .ref a19, .long (own_sel q1 z1 z8 r)]) (st := []) rfl (W := 0) (Nat.le_of_eq rfl) (by decide) (by decide) (by decide) (by decide) (hb hby at_349) (q := 352) rfl (fun T223 X224 e225 => ?_)
              refine own_if0P X224 hx (hb hby at_352) (cd := .eq) (x := own_f2 (3 : Int32) (3 : Int32) z207 (((XT.ushr p5 (6 : Int32)) &&& (3 : Int32)) % (3 : Int32)) (own_sel q1 z1 z8 r) q1 z1 z8) (pt := 359) (q := 355) (by decide) (by decide) rfl rfl (fun h => False.elim (((by rw [own_f2, if_neg (by decide)]; decide) : ¬ ((own_f2 (3 : Int32) (3 : Int32) z207 (((XT.ushr p5 (6 : Int32)) &&& (3 : Int32)) % (3 : Int32)) (own_sel q1 z1 z8 r) q1 z1 z8) = (0 : Int32))) h)) (fun _ => ?_)
              refine own_iconst X224 hx (v := (1 : Int32)) (hb hby at_355) (q := 356) rfl rfl ?_
              refine own_goto X224 hx (hb hby at_356) (q := 360) (by decide) (by decide) ?_
              refine own_retN X224 hx hlk (t := .boolean) (by simp) Bd.returns (hb hby at_360) ?_ (by decide) (by decide)
              exact ⟨rfl, N189⟩
            refine own_icmpM X191 hx (hb hby at_265) (cd := .ne) (x := (p5 &&& (3 : Int32)) % (3 : Int32)) (y := r) (pt := 271) (q := 268) (by decide) (by decide) rfl rfl (fun (c60 : ¬ (((p5 &&& (3 : Int32)) % (3 : Int32)) = r)) => ?_) (fun (c60 : ((p5 &&& (3 : Int32)) % (3 : Int32)) = r) => ?_)
            · exact J208 _ (by rw [if_neg c60])
            · refine own_iconst X191 hx (v := (0 : Int32)) (hb hby at_268) (q := 269) rfl rfl ?_
              refine own_istore (L' := #[.val (.long q1), .second, .val (.long q2), .second, .val (.long q3), .second, .val (.int p4), .val (.int p5), .val (.int (3 : Int32)), .val (.int (XT.ushr p4 (2 : Int32))), .val (.long q1), .second, .val (.long z1), .second, .val (.long z8), .second, .val (.ref a19), .val (.int ((p5 &&& (3 : Int32)) % (3 : Int32))), .val (.int (((XT.ushr p5 (2 : Int32)) &&& (3 : Int32)) % (3 : Int32))), .val (.int (((XT.ushr p5 (4 : Int32)) &&& (3 : Int32)) % (3 : Int32))), .val (.int (((XT.ushr p5 (6 : Int32)) &&& (3 : Int32)) % (3 : Int32))), .val (.ref a155), .val (.int r), .val (.int (0 : Int32)), .unset, .unset]) X191 hx (hb hby at_269) (q := 271) rfl rfl ?_
              exact J208 _ (by rw [if_pos c60])
          refine own_icmpM X191 hx (hb hby at_255) (cd := .ne) (x := ((XT.ushr p5 (2 : Int32)) &&& (3 : Int32)) % (3 : Int32)) (y := r) (pt := 261) (q := 258) (by decide) (by decide) rfl rfl (fun (c61 : ¬ ((((XT.ushr p5 (2 : Int32)) &&& (3 : Int32)) % (3 : Int32)) = r)) => ?_) (fun (c61 : (((XT.ushr p5 (2 : Int32)) &&& (3 : Int32)) % (3 : Int32)) = r) => ?_)
          · exact J201 _ (by rw [if_neg c61])
          · refine own_iconst X191 hx (v := (1 : Int32)) (hb hby at_258) (q := 259) rfl rfl ?_
            refine own_istore (L' := #[.val (.long q1), .second, .val (.long q2), .second, .val (.long q3), .second, .val (.int p4), .val (.int p5), .val (.int (3 : Int32)), .val (.int (XT.ushr p4 (2 : Int32))), .val (.long q1), .second, .val (.long z1), .second, .val (.long z8), .second, .val (.ref a19), .val (.int ((p5 &&& (3 : Int32)) % (3 : Int32))), .val (.int (((XT.ushr p5 (2 : Int32)) &&& (3 : Int32)) % (3 : Int32))), .val (.int (((XT.ushr p5 (4 : Int32)) &&& (3 : Int32)) % (3 : Int32))), .val (.int (((XT.ushr p5 (6 : Int32)) &&& (3 : Int32)) % (3 : Int32))), .val (.ref a155), .val (.int r), .val (.int (1 : Int32)), .unset, .unset]) X191 hx (hb hby at_259) (q := 261) rfl rfl ?_
            exact J201 _ (by rw [if_pos c61])
        refine own_icmpM X191 hx (hb hby at_239) (cd := .ne) (x := ((XT.ushr p5 (4 : Int32)) &&& (3 : Int32)) % (3 : Int32)) (y := r) (pt := 245) (q := 242) (by decide) (by decide) rfl rfl (fun (c62 : ¬ ((((XT.ushr p5 (4 : Int32)) &&& (3 : Int32)) % (3 : Int32)) = r)) => ?_) (fun (c62 : (((XT.ushr p5 (4 : Int32)) &&& (3 : Int32)) % (3 : Int32)) = r) => ?_)
        · exact J194 _ (by rw [if_neg c62])
        · refine own_iconst X191 hx (v := (2 : Int32)) (hb hby at_242) (q := 243) rfl rfl ?_
          refine own_istore (L' := #[.val (.long q1), .second, .val (.long q2), .second, .val (.long q3), .second, .val (.int p4), .val (.int p5), .val (.int (3 : Int32)), .val (.int (XT.ushr p4 (2 : Int32))), .val (.long q1), .second, .val (.long z1), .second, .val (.long z8), .second, .val (.ref a19), .val (.int ((p5 &&& (3 : Int32)) % (3 : Int32))), .val (.int (((XT.ushr p5 (2 : Int32)) &&& (3 : Int32)) % (3 : Int32))), .val (.int (((XT.ushr p5 (4 : Int32)) &&& (3 : Int32)) % (3 : Int32))), .val (.int (((XT.ushr p5 (6 : Int32)) &&& (3 : Int32)) % (3 : Int32))), .val (.ref a155), .val (.int r), .val (.int (2 : Int32)), .unset, .unset]) X191 hx (hb hby at_243) (q := 245) rfl rfl ?_
          exact J194 _ (by rw [if_pos c62])
      · rw [hn]
        refine own_iload X42 hx (hb hby at_107) (q := 109) rfl rfl ?_
        refine own_newA X42 hx hZ (aty := .int) (ty := .int) (k := 4) (cap := 4) rfl (hw _ (List.mem_of_getElem? (i := 1) rfl)) e43 (by decide) (by decide) (by decide) (by decide) (by decide) (by decide) (hb hby at_109) (q := 111) rfl (fun T226 h229 a230 X227 e228 g231 E232 A233 => ?_)
        have A234 := A46.ext E232
        have ne235 : a19 ≠ a230 := by rw [g231]; exact Nat.ne_of_lt A46.lt
        have Z236 : n0 ≤ a230 := by rw [g231]; exact Z47
        have Z237 : n0 ≤ h229.size := Nat.le_trans Z47 E232.1
        replace A233 : own_A Z h229 a230 .int [.int (0 : Int32), .int (0 : Int32), .int (0 : Int32), .int (0 : Int32)] := A233
        refine own_astore (L' := #[.val (.long q1), .second, .val (.long q2), .second, .val (.long q3), .second, .val (.int p4), .val (.int p5), .val (.int (4 : Int32)), .val (.int (XT.ushr p4 (2 : Int32))), .val (.long q1), .second, .val (.long z1), .second, .val (.long z8), .second, .val (.ref a19), .val (.int ((p5 &&& (3 : Int32)) % (3 : Int32))), .val (.int (((XT.ushr p5 (2 : Int32)) &&& (3 : Int32)) % (3 : Int32))), .val (.int (((XT.ushr p5 (4 : Int32)) &&& (3 : Int32)) % (3 : Int32))), .val (.int (((XT.ushr p5 (6 : Int32)) &&& (3 : Int32)) % (3 : Int32))), .val (.ref a230), .unset, .unset, .unset, .unset]) X227 hx (hb hby at_111) (q := 113) rfl rfl rfl ?_
        refine own_aload X227 hx (hb hby at_113) (q := 115) rfl rfl rfl ?_
        refine own_iconst X227 hx (v := (0 : Int32)) (hb hby at_115) (q := 116) rfl rfl ?_
        refine own_iload X227 hx (hb hby at_116) (q := 118) rfl rfl ?_
        refine own_iastore X227 hx hZ (i := 0) e228 A233 (by decide) (by decide) (Nat.le_of_ble_eq_true rfl) (hb hby at_118) (q := 119) rfl (fun T238 h241 X239 e240 W242 A243 => ?_)
        replace A243 : own_A Z h241 a230 .int [.int ((p5 &&& (3 : Int32)) % (3 : Int32)), .int (0 : Int32), .int (0 : Int32), .int (0 : Int32)] := A243
        have A244 := A234.other W242 ne235
        have Z245 : n0 ≤ h241.size := W242.size ▸ Z237
        have N246 := Fr.snoc X239 N48 Z236
        refine own_iload X239 hx (hb hby at_119) (q := 121) rfl rfl ?_
        refine own_iconst X239 hx (v := (1 : Int32)) (hb hby at_121) (q := 122) rfl rfl ?_
        refine own_icmpM X239 hx (hb hby at_122) (cd := .le) (x := (4 : Int32)) (y := (1 : Int32)) (pt := 131) (q := 125) (by decide) (by decide) rfl rfl (fun h => False.elim (h ((by decide) : (1 : Int32) < (4 : Int32)))) (fun _ => ?_)
        refine own_aload X239 hx (hb hby at_125) (q := 127) rfl rfl rfl ?_
        refine own_iconst X239 hx (v := (1 : Int32)) (hb hby at_127) (q := 128) rfl rfl ?_
        refine own_iload X239 hx (hb hby at_128) (q := 130) rfl rfl ?_
        refine own_iastore X239 hx hZ (i := 1) e240 A243 (by decide) (by decide) (Nat.le_of_ble_eq_true rfl) (hb hby at_130) (q := 131) rfl (fun T247 h250 X248 e249 W251 A252 => ?_)
        replace A252 : own_A Z h250 a230 .int [.int ((p5 &&& (3 : Int32)) % (3 : Int32)), .int (((XT.ushr p5 (2 : Int32)) &&& (3 : Int32)) % (3 : Int32)), .int (0 : Int32), .int (0 : Int32)] := A252
        have A253 := A244.other W251 ne235
        have Z254 : n0 ≤ h250.size := W251.size ▸ Z245
        have N255 := Fr.snoc X248 N246 Z236
        refine own_iload X248 hx (hb hby at_131) (q := 133) rfl rfl ?_
        refine own_iconst X248 hx (v := (2 : Int32)) (hb hby at_133) (q := 134) rfl rfl ?_
        refine own_icmpM X248 hx (hb hby at_134) (cd := .le) (x := (4 : Int32)) (y := (2 : Int32)) (pt := 143) (q := 137) (by decide) (by decide) rfl rfl (fun h => False.elim (h ((by decide) : (2 : Int32) < (4 : Int32)))) (fun _ => ?_)
        refine own_aload X248 hx (hb hby at_137) (q := 139) rfl rfl rfl ?_
        refine own_iconst X248 hx (v := (2 : Int32)) (hb hby at_139) (q := 140) rfl rfl ?_
        refine own_iload X248 hx (hb hby at_140) (q := 142) rfl rfl ?_
        refine own_iastore X248 hx hZ (i := 2) e249 A252 (by decide) (by decide) (Nat.le_of_ble_eq_true rfl) (hb hby at_142) (q := 143) rfl (fun T256 h259 X257 e258 W260 A261 => ?_)
        replace A261 : own_A Z h259 a230 .int [.int ((p5 &&& (3 : Int32)) % (3 : Int32)), .int (((XT.ushr p5 (2 : Int32)) &&& (3 : Int32)) % (3 : Int32)), .int (((XT.ushr p5 (4 : Int32)) &&& (3 : Int32)) % (3 : Int32)), .int (0 : Int32)] := A261
        have A262 := A253.other W260 ne235
        have Z263 : n0 ≤ h259.size := W260.size ▸ Z254
        have N264 := Fr.snoc X257 N255 Z236
        refine own_iload X257 hx (hb hby at_143) (q := 145) rfl rfl ?_
        refine own_iconst X257 hx (v := (3 : Int32)) (hb hby at_145) (q := 146) rfl rfl ?_
        refine own_icmpM X257 hx (hb hby at_146) (cd := .le) (x := (4 : Int32)) (y := (3 : Int32)) (pt := 155) (q := 149) (by decide) (by decide) rfl rfl (fun h => False.elim (h ((by decide) : (3 : Int32) < (4 : Int32)))) (fun _ => ?_)
        refine own_aload X257 hx (hb hby at_149) (q := 151) rfl rfl rfl ?_
        refine own_iconst X257 hx (v := (3 : Int32)) (hb hby at_151) (q := 152) rfl rfl ?_
        refine own_iload X257 hx (hb hby at_152) (q := 154) rfl rfl ?_
        refine own_iastore X257 hx hZ (i := 3) e258 A261 (by decide) (by decide) (Nat.le_of_ble_eq_true rfl) (hb hby at_154) (q := 155) rfl (fun T265 h268 X266 e267 W269 A270 => ?_)
        replace A270 : own_A Z h268 a230 .int [.int ((p5 &&& (3 : Int32)) % (3 : Int32)), .int (((XT.ushr p5 (2 : Int32)) &&& (3 : Int32)) % (3 : Int32)), .int (((XT.ushr p5 (4 : Int32)) &&& (3 : Int32)) % (3 : Int32)), .int (((XT.ushr p5 (6 : Int32)) &&& (3 : Int32)) % (3 : Int32))] := A270
        have A271 := A262.other W269 ne235
        have Z272 : n0 ≤ h268.size := W269.size ▸ Z263
        have N273 := Fr.snoc X266 N264 Z236
        refine own_aload X266 hx (hb hby at_155) (q := 157) rfl rfl rfl ?_
        refine own_aload X266 hx (hb hby at_157) (q := 159) rfl rfl rfl ?_
        refine own_callSP X266 hx hZ hown (hw _ (List.mem_of_getElem? (i := 2) rfl)) (hw _ (List.mem_of_getElem? (i := 3) rfl)) (hw _ (List.mem_of_getElem? (i := 4) rfl)) (hw _ (List.mem_of_getElem? (i := 5) rfl)) (by decide) (rm1_4 l Z a0 hw [] a230 a19 ((p5 &&& (3 : Int32)) % (3 : Int32)) (((XT.ushr p5 (2 : Int32)) &&& (3 : Int32)) % (3 : Int32)) (((XT.ushr p5 (4 : Int32)) &&& (3 : Int32)) % (3 : Int32)) (((XT.ushr p5 (6 : Int32)) &&& (3 : Int32)) % (3 : Int32)) q1 z1 z8 h268 A270 A271 (own_m3 _) (own_m3 _) (own_m3 _) (own_m3 _)) own_pd0 rfl e267 (by rw [hml]; rfl) (argsL := [.ref a230, .ref a19]) (st := []) rfl (W := 0) (Nat.le_of_eq rfl) (by decide) (by decide) (by decide) (by decide) (hb hby at_159) (q := 162) rfl (fun T274 X275 e276 => ?_)
        obtain ⟨r, hr⟩ : ∃ r, r = own_f1_4 ((p5 &&& (3 : Int32)) % (3 : Int32)) (((XT.ushr p5 (2 : Int32)) &&& (3 : Int32)) % (3 : Int32)) (((XT.ushr p5 (4 : Int32)) &&& (3 : Int32)) % (3 : Int32)) (((XT.ushr p5 (6 : Int32)) &&& (3 : Int32)) % (3 : Int32)) q1 z1 z8 := ⟨_, rfl⟩
        rw [← hr]
        have hr3 : r = 0 ∨ r = 1 ∨ r = 2 := by rw [hr]; exact own_r4 _ _ _ _ _ _ _ (own_m3 _) (own_m3 _) (own_m3 _) (own_m3 _)
        have hr0 : ¬ r < 0 := own_selN hr3
        have hr2 : ¬ (2 : Int32) < r := by rcases hr3 with h | h | h <;> rw [h] <;> decide
        refine own_istore (L' := #[.val (.long q1), .second, .val (.long q2), .second, .val (.long q3), .second, .val (.int p4), .val (.int p5), .val (.int (4 : Int32)), .val (.int (XT.ushr p4 (2 : Int32))), .val (.long q1), .second, .val (.long z1), .second, .val (.long z8), .second, .val (.ref a19), .val (.int ((p5 &&& (3 : Int32)) % (3 : Int32))), .val (.int (((XT.ushr p5 (2 : Int32)) &&& (3 : Int32)) % (3 : Int32))), .val (.int (((XT.ushr p5 (4 : Int32)) &&& (3 : Int32)) % (3 : Int32))), .val (.int (((XT.ushr p5 (6 : Int32)) &&& (3 : Int32)) % (3 : Int32))), .val (.ref a230), .val (.int r), .unset, .unset, .unset]) X275 hx (hb hby at_162) (q := 164) rfl rfl ?_
        refine own_iload X275 hx (hb hby at_164) (q := 166) rfl rfl ?_
        refine own_if0P X275 hx (hb hby at_166) (cd := .lt) (x := r) (pt := 175) (q := 169) (by decide) (by decide) rfl rfl (fun h => False.elim ((hr0 : ¬ (r < (0 : Int32))) h)) (fun _ => ?_)
        refine own_iload X275 hx (hb hby at_169) (q := 171) rfl rfl ?_
        refine own_iconst X275 hx (v := (2 : Int32)) (hb hby at_171) (q := 172) rfl rfl ?_
        refine own_icmpM X275 hx (hb hby at_172) (cd := .le) (x := r) (y := (2 : Int32)) (pt := 177) (q := 175) (by decide) (by decide) rfl rfl (fun _ => ?_) (fun h => False.elim ((hr2 : ¬ ((2 : Int32) < r)) h))
        refine own_aload X275 hx (hb hby at_177) (q := 179) rfl rfl rfl ?_
        refine own_iconst X275 hx (v := (0 : Int32)) (hb hby at_179) (q := 180) rfl rfl ?_
        refine own_laload X275 hx hZ (i := 0) (v := .long q1) e276 A271 (by decide) (by decide) rfl (hb hby at_180) (q := 181) rfl ?_
        refine own_lload X275 hx (hb hby at_181) (q := 183) rfl rfl ?_
        refine own_lcmp X275 hx (hb hby at_183) (q := 184) rfl ?_
        refine own_ifLM X275 hx (hb hby at_184) (cd := .ne) (x := q1) (y := q1) (pt := 207) (q := 187) (by decide) (by decide) rfl rfl (fun h => False.elim (h (rfl : q1 = q1))) (fun _ => ?_)
        refine own_aload X275 hx (hb hby at_187) (q := 189) rfl rfl rfl ?_
        refine own_iconst X275 hx (v := (1 : Int32)) (hb hby at_189) (q := 190) rfl rfl ?_
        refine own_laload X275 hx hZ (i := 1) (v := .long z1) e276 A271 (by decide) (by decide) rfl (hb hby at_190) (q := 191) rfl ?_
        refine own_lload X275 hx (hb hby at_191) (q := 193) rfl rfl ?_
        refine own_lcmp X275 hx (hb hby at_193) (q := 194) rfl ?_
        refine own_ifLM X275 hx (hb hby at_194) (cd := .ne) (x := z1) (y := z1) (pt := 207) (q := 197) (by decide) (by decide) rfl rfl (fun h => False.elim (h (rfl : z1 = z1))) (fun _ => ?_)
        refine own_aload X275 hx (hb hby at_197) (q := 199) rfl rfl rfl ?_
        refine own_iconst X275 hx (v := (2 : Int32)) (hb hby at_199) (q := 200) rfl rfl ?_
        refine own_laload X275 hx hZ (i := 2) (v := .long z8) e276 A271 (by decide) (by decide) rfl (hb hby at_200) (q := 201) rfl ?_
        refine own_lload X275 hx (hb hby at_201) (q := 203) rfl rfl ?_
        refine own_lcmp X275 hx (hb hby at_203) (q := 204) rfl ?_
        refine own_ifLP X275 hx (hb hby at_204) (cd := .eq) (x := z8) (y := z8) (pt := 209) (q := 207) (by decide) (by decide) rfl rfl (fun _ => ?_) (fun h => False.elim (h (rfl : z8 = z8)))
        refine own_iload X275 hx (hb hby at_209) (q := 211) rfl rfl ?_
        refine own_istore (L' := #[.val (.long q1), .second, .val (.long q2), .second, .val (.long q3), .second, .val (.int p4), .val (.int p5), .val (.int (4 : Int32)), .val (.int (XT.ushr p4 (2 : Int32))), .val (.long q1), .second, .val (.long z1), .second, .val (.long z8), .second, .val (.ref a19), .val (.int ((p5 &&& (3 : Int32)) % (3 : Int32))), .val (.int (((XT.ushr p5 (2 : Int32)) &&& (3 : Int32)) % (3 : Int32))), .val (.int (((XT.ushr p5 (4 : Int32)) &&& (3 : Int32)) % (3 : Int32))), .val (.int (((XT.ushr p5 (6 : Int32)) &&& (3 : Int32)) % (3 : Int32))), .val (.ref a230), .val (.int r), .val (.int (4 : Int32)), .unset, .unset]) X275 hx (hb hby at_211) (q := 213) rfl rfl ?_
        refine own_iload X275 hx (hb hby at_213) (q := 215) rfl rfl ?_
        refine own_iconst X275 hx (v := (3 : Int32)) (hb hby at_215) (q := 216) rfl rfl ?_
        refine own_icmpM X275 hx (hb hby at_216) (cd := .le) (x := (4 : Int32)) (y := (3 : Int32)) (pt := 229) (q := 219) (by decide) (by decide) rfl rfl (fun h => False.elim (h ((by decide) : (3 : Int32) < (4 : Int32)))) (fun _ => ?_)
        refine own_iload X275 hx (hb hby at_219) (q := 221) rfl rfl ?_
        refine own_iload X275 hx (hb hby at_221) (q := 223) rfl rfl ?_
        have J278 : ∀ (z277 : Int32), z277 = (if (((XT.ushr p5 (6 : Int32)) &&& (3 : Int32)) % (3 : Int32)) = r then (3 : Int32) else (4 : Int32)) → own_Go p e below s 16 128 (own_Q0 n0) (T274.setTop (mkF m 229 #[.val (.long q1), .second, .val (.long q2), .second, .val (.long q3), .second, .val (.int p4), .val (.int p5), .val (.int (4 : Int32)), .val (.int (XT.ushr p4 (2 : Int32))), .val (.long q1), .second, .val (.long z1), .second, .val (.long z8), .second, .val (.ref a19), .val (.int ((p5 &&& (3 : Int32)) % (3 : Int32))), .val (.int (((XT.ushr p5 (2 : Int32)) &&& (3 : Int32)) % (3 : Int32))), .val (.int (((XT.ushr p5 (4 : Int32)) &&& (3 : Int32)) % (3 : Int32))), .val (.int (((XT.ushr p5 (6 : Int32)) &&& (3 : Int32)) % (3 : Int32))), .val (.ref a230), .val (.int r), .val (.int z277), .unset, .unset] [])) := by
          intro z277 hz283
          refine own_iload X275 hx (hb hby at_229) (q := 231) rfl rfl ?_
          refine own_iconst X275 hx (v := (2 : Int32)) (hb hby at_231) (q := 232) rfl rfl ?_
          refine own_icmpM X275 hx (hb hby at_232) (cd := .le) (x := (4 : Int32)) (y := (2 : Int32)) (pt := 245) (q := 235) (by decide) (by decide) rfl rfl (fun h => False.elim (h ((by decide) : (2 : Int32) < (4 : Int32)))) (fun _ => ?_)
          refine own_iload X275 hx (hb hby at_235) (q := 237) rfl rfl ?_
          refine own_iload X275 hx (hb hby at_237) (q := 239) rfl rfl ?_
          have J285 : ∀ (z284 : Int32), z284 = (if (((XT.ushr p5 (4 : Int32)) &&& (3 : Int32)) % (3 : Int32)) = r then (2 : Int32) else z277) → own_Go p e below s 16 128 (own_Q0 n0) (T274.setTop (mkF m 245 #[.val (.long q1), .second, .val (.long q2), .second, .val (.long q3), .second, .val (.int p4), .val (.int p5), .val (.int (4 : Int32)), .val (.int (XT.ushr p4 (2 : Int32))), .val (.long q1), .second, .val (.long z1), .second, .val (.long z8), .second, .val (.ref a19), .val (.int ((p5 &&& (3 : Int32)) % (3 : Int32))), .val (.int (((XT.ushr p5 (2 : Int32)) &&& (3 : Int32)) % (3 : Int32))), .val (.int (((XT.ushr p5 (4 : Int32)) &&& (3 : Int32)) % (3 : Int32))), .val (.int (((XT.ushr p5 (6 : Int32)) &&& (3 : Int32)) % (3 : Int32))), .val (.ref a230), .val (.int r), .val (.int z284), .unset, .unset] [])) := by
            intro z284 hz290
            refine own_iload X275 hx (hb hby at_245) (q := 247) rfl rfl ?_
            refine own_iconst X275 hx (v := (1 : Int32)) (hb hby at_247) (q := 248) rfl rfl ?_
            refine own_icmpM X275 hx (hb hby at_248) (cd := .le) (x := (4 : Int32)) (y := (1 : Int32)) (pt := 261) (q := 251) (by decide) (by decide) rfl rfl (fun h => False.elim (h ((by decide) : (1 : Int32) < (4 : Int32)))) (fun _ => ?_)
            refine own_iload X275 hx (hb hby at_251) (q := 253) rfl rfl ?_
            refine own_iload X275 hx (hb hby at_253) (q := 255) rfl rfl ?_
            have J292 : ∀ (z291 : Int32), z291 = (if (((XT.ushr p5 (2 : Int32)) &&& (3 : Int32)) % (3 : Int32)) = r then (1 : Int32) else z284) → own_Go p e below s 16 128 (own_Q0 n0) (T274.setTop (mkF m 261 #[.val (.long q1), .second, .val (.long q2), .second, .val (.long q3), .second, .val (.int p4), .val (.int p5), .val (.int (4 : Int32)), .val (.int (XT.ushr p4 (2 : Int32))), .val (.long q1), .second, .val (.long z1), .second, .val (.long z8), .second, .val (.ref a19), .val (.int ((p5 &&& (3 : Int32)) % (3 : Int32))), .val (.int (((XT.ushr p5 (2 : Int32)) &&& (3 : Int32)) % (3 : Int32))), .val (.int (((XT.ushr p5 (4 : Int32)) &&& (3 : Int32)) % (3 : Int32))), .val (.int (((XT.ushr p5 (6 : Int32)) &&& (3 : Int32)) % (3 : Int32))), .val (.ref a230), .val (.int r), .val (.int z291), .unset, .unset] [])) := by
              intro z291 hz297
              refine own_iload X275 hx (hb hby at_261) (q := 263) rfl rfl ?_
              refine own_iload X275 hx (hb hby at_263) (q := 265) rfl rfl ?_
              have J299 : ∀ (z298 : Int32), z298 = (if ((p5 &&& (3 : Int32)) % (3 : Int32)) = r then (0 : Int32) else z291) → own_Go p e below s 16 128 (own_Q0 n0) (T274.setTop (mkF m 271 #[.val (.long q1), .second, .val (.long q2), .second, .val (.long q3), .second, .val (.int p4), .val (.int p5), .val (.int (4 : Int32)), .val (.int (XT.ushr p4 (2 : Int32))), .val (.long q1), .second, .val (.long z1), .second, .val (.long z8), .second, .val (.ref a19), .val (.int ((p5 &&& (3 : Int32)) % (3 : Int32))), .val (.int (((XT.ushr p5 (2 : Int32)) &&& (3 : Int32)) % (3 : Int32))), .val (.int (((XT.ushr p5 (4 : Int32)) &&& (3 : Int32)) % (3 : Int32))), .val (.int (((XT.ushr p5 (6 : Int32)) &&& (3 : Int32)) % (3 : Int32))), .val (.ref a230), .val (.int r), .val (.int z298), .unset, .unset] [])) := by
                intro z298 hz304
                refine own_iload X275 hx (hb hby at_271) (q := 273) rfl rfl ?_
                refine own_iload X275 hx (hb hby at_273) (q := 275) rfl rfl ?_
                refine own_icmpM X275 hx (hb hby at_275) (cd := .ne) (x := z298) (y := (4 : Int32)) (pt := 280) (q := 278) (by decide) (by decide) rfl rfl (fun _ => ?_) (fun h => False.elim (((own_fin4 _ _ _ _ _ _ _ _ _ _ hr rfl (by rw [hz304, hz297, hz290, hz283])).1 : ¬ (z298 = (4 : Int32))) h))
                refine own_aload X275 hx (hb hby at_280) (q := 282) rfl rfl rfl ?_
                refine own_iload X275 hx (hb hby at_282) (q := 284) rfl rfl ?_
                refine own_laload X275 hx hZ (i := (r).toNatClampNeg) (v := .long (own_sel q1 z1 z8 r)) e276 A271 (own_selN hr3) rfl (own_selV hr3) (hb hby at_284) (q := 285) rfl ?_
                refine own_lstore (L' := #[.val (.long q1), .second, .val (.long q2), .second, .val (.long q3), .second, .val (.int p4), .val (.int p5), .val (.int (4 : Int32)), .val (.int (XT.ushr p4 (2 : Int32))), .val (.long q1), .second, .val (.long z1), .second, .val (.long z8), .second, .val (.ref a19), .val (.int ((p5 &&& (3 : Int32)) % (3 : Int32))), .val (.int (((XT.ushr p5 (2 : Int32)) &&& (3 : Int32)) % (3 : Int32))), .val (.int (((XT.ushr p5 (4 : Int32)) &&& (3 : Int32)) % (3 : Int32))), .val (.int (((XT.ushr p5 (6 : Int32)) &&& (3 : Int32)) % (3 : Int32))), .val (.ref a230), .val (.int r), .val (.int z298), .val (.long (own_sel q1 z1 z8 r)), .second]) X275 hx (hb hby at_285) (q := 287) rfl rfl ?_
                refine own_iconst X275 hx (v := (0 : Int32)) (hb hby at_287) (q := 288) rfl rfl ?_
                refine own_iload X275 hx (hb hby at_288) (q := 290) rfl rfl ?_
                refine own_iload X275 hx (hb hby at_290) (q := 292) rfl rfl ?_
                refine own_iload X275 hx (hb hby at_292) (q := 294) rfl rfl ?_
                refine own_aload X275 hx (hb hby at_294) (q := 296) rfl rfl rfl ?_
                refine own_lload X275 hx (hb hby at_296) (q := 298) rfl rfl ?_
                refine own_callSP X275 hx hZ hown (hw _ (List.mem_of_getElem? (i := 6) rfl)) (hw _ (List.mem_of_getElem? (i := 7) rfl)) (hw _ (List.mem_of_getElem? (i := 8) rfl)) (hw _ (List.mem_of_getElem? (i := 9) rfl)) (by decide) (rm2 l Z a0 hw [] (0 : Int32) (4 : Int32) z298 ((p5 &&& (3 : Int32)) % (3 : Int32)) a19 (own_sel q1 z1 z8 r) q1 z1 z8 h268 A271 (own_m3 _)) own_pd1 rfl e276 (by rw [hml]; rfl) (argsL := [.int (0 : Int32), .int (4 : Int32), .int z298, .int ((p5 &&& (3 : Int32)) % (3 : Int32)), .ref a19, .long (own_sel q1 z1 z8 r)]) (st := []) rfl (W := 0) (Nat.le_of_eq rfl) (by decide) (by decide) (by decide) (by decide) (hb hby at_298) (q := 301) rfl (fun T305 X306 e307 => ?_)
                refine own_if0P X306 hx (hb hby at_301) (cd := .eq) (x := own_f2 (0 : Int32) (4 : Int32) z298 ((p5 &&& (3 : Int32)) % (3 : Int32)) (own_sel q1 z1 z8 r) q1 z1 z8) (pt := 359) (q := 304) (by decide) (by decide) rfl rfl (fun h => False.elim (((own_fin4 _ _ _ _ _ _ _ _ _ _ hr rfl (by rw [hz304, hz297, hz290, hz283])).2.1 : ¬ ((own_f2 (0 : Int32) (4 : Int32) z298 ((p5 &&& (3 : Int32)) % (3 : Int32)) (own_sel q1 z1 z8 r) q1 z1 z8) = (0 : Int32))) h)) (fun _ => ?_)
                refine own_iconst X306 hx (v := (1 : Int32)) (hb hby at_304) (q := 305) rfl rfl ?_
                refine own_iload X306 hx (hb hby at_305) (q := 307) rfl rfl ?_
                refine own_iload X306 hx (hb hby at_307) (q := 309) rfl rfl ?_
                refine own_iload X306 hx (hb hby at_309) (q := 311) rfl rfl ?_
                refine own_aload X306 hx (hb hby at_311) (q := 313) rfl rfl rfl ?_
                refine own_lload X306 hx (hb hby at_313) (q := 315) rfl rfl ?_
                refine own_callSP X306 hx hZ hown (hw _ (List.mem_of_getElem? (i := 6) rfl)) (hw _ (List.mem_of_getElem? (i := 7) rfl)) (hw _ (List.mem_of_getElem? (i := 8) rfl)) (hw _ (List.mem_of_getElem? (i := 9) rfl)) (by decide) (rm2 l Z a0 hw [] (1 : Int32) (4 : Int32) z298 (((XT.ushr p5 (2 : Int32)) &&& (3 : Int32)) % (3 : Int32)) a19 (own_sel q1 z1 z8 r) q1 z1 z8 h268 A271 (own_m3 _)) own_pd1 rfl e307 (by rw [hml]; rfl) (argsL := [.int (1 : Int32), .int (4 : Int32), .int z298, .int (((XT.ushr p5 (2 : Int32)) &&& (3 : Int32)) % (3 : Int32)), .ref a19, .long (own_sel q1 z1 z8 r)]) (st := []) rfl (W := 0) (Nat.le_of_eq rfl) (by decide) (by decide) (by decide) (by decide) (hb hby at_315) (q := 318) rfl (fun T308 X309 e310 => ?_)
                refine own_if0P X309 hx (hb hby at_318) (cd := .eq) (x := own_f2 (1 : Int32) (4 : Int32) z298 (((XT.ushr p5 (2 : Int32)) &&& (3 : Int32)) % (3 : Int32)) (own_sel q1 z1 z8 r) q1 z1 z8) (pt := 359) (q := 321) (by decide) (by decide) rfl rfl (fun h => False.elim (((own_fin4 _ _ _ _ _ _ _ _ _ _ hr rfl (by rw [hz304, hz297, hz290, hz283])).2.2.1 : ¬ ((own_f2 (1 : Int32) (4 : Int32) z298 (((XT.ushr p5 (2 : Int32)) &&& (3 : Int32)) % (3 : Int32)) (own_sel q1 z1 z8 r) q1 z1 z8) = (0 : Int32))) h)) (fun _ => ?_)
                refine own_iconst X309 hx (v := (2 : Int32)) (hb hby at_321) (q := 322) rfl rfl ?_
                refine own_iload X309 hx (hb hby at_322) (q := 324) rfl rfl ?_
                refine own_iload X309 hx (hb hby at_324) (q := 326) rfl rfl ?_
                refine own_iload X309 hx (hb hby at_326) (q := 328) rfl rfl ?_
                refine own_aload X309 hx (hb hby at_328) (q := 330) rfl rfl rfl ?_
                refine own_lload X309 hx (hb hby at_330) (q := 332) rfl rfl ?_
                refine own_callSP X309 hx hZ hown (hw _ (List.mem_of_getElem? (i := 6) rfl)) (hw _ (List.mem_of_getElem? (i := 7) rfl)) (hw _ (List.mem_of_getElem? (i := 8) rfl)) (hw _ (List.mem_of_getElem? (i := 9) rfl)) (by decide) (rm2 l Z a0 hw [] (2 : Int32) (4 : Int32) z298 (((XT.ushr p5 (4 : Int32)) &&& (3 : Int32)) % (3 : Int32)) a19 (own_sel q1 z1 z8 r) q1 z1 z8 h268 A271 (own_m3 _)) own_pd1 rfl e310 (by rw [hml]; rfl) (argsL := [.int (2 : Int32), .int (4 : Int32), .int z298, .int (((XT.ushr p5 (4 : Int32)) &&& (3 : Int32)) % (3 : Int32)), .ref a19, .long (own_sel q1 z1 z8 r)]) (st := []) rfl (W := 0) (Nat.le_of_eq rfl) (by decide) (by decide) (by decide) (by decide) (hb hby at_332) (q := 335) rfl (fun T311 X312 e313 => ?_)
                refine own_if0P X312 hx (hb hby at_335) (cd := .eq) (x := own_f2 (2 : Int32) (4 : Int32) z298 (((XT.ushr p5 (4 : Int32)) &&& (3 : Int32)) % (3 : Int32)) (own_sel q1 z1 z8 r) q1 z1 z8) (pt := 359) (q := 338) (by decide) (by decide) rfl rfl (fun h => False.elim (((own_fin4 _ _ _ _ _ _ _ _ _ _ hr rfl (by rw [hz304, hz297, hz290, hz283])).2.2.2.1 : ¬ ((own_f2 (2 : Int32) (4 : Int32) z298 (((XT.ushr p5 (4 : Int32)) &&& (3 : Int32)) % (3 : Int32)) (own_sel q1 z1 z8 r) q1 z1 z8) = (0 : Int32))) h)) (fun _ => ?_)
                refine own_iconst X312 hx (v := (3 : Int32)) (hb hby at_338) (q := 339) rfl rfl ?_
                refine own_iload X312 hx (hb hby at_339) (q := 341) rfl rfl ?_
                refine own_iload X312 hx (hb hby at_341) (q := 343) rfl rfl ?_
                refine own_iload X312 hx (hb hby at_343) (q := 345) rfl rfl ?_
                refine own_aload X312 hx (hb hby at_345) (q := 347) rfl rfl rfl ?_
                refine own_lload X312 hx (hb hby at_347) (q := 349) rfl rfl ?_
                refine own_callSP X312 hx hZ hown (hw _ (List.mem_of_getElem? (i := 6) rfl)) (hw _ (List.mem_of_getElem? (i := 7) rfl)) (hw _ (List.mem_of_getElem? (i := 8) rfl)) (hw _ (List.mem_of_getElem? (i := 9) rfl)) (by decide) (rm2 l Z a0 hw [] (3 : Int32) (4 : Int32) z298 (((XT.ushr p5 (6 : Int32)) &&& (3 : Int32)) % (3 : Int32)) a19 (own_sel q1 z1 z8 r) q1 z1 z8 h268 A271 (own_m3 _)) own_pd1 rfl e313 (by rw [hml]; rfl) (argsL := [.int (3 : Int32), .int (4 : Int32), .int z298, .int (((XT.ushr p5 (6 : Int32)) &&& (3 : Int32)) % (3 : Int32)), .ref a19, .long (own_sel q1 z1 z8 r)]) (st := []) rfl (W := 0) (Nat.le_of_eq rfl) (by decide) (by decide) (by decide) (by decide) (hb hby at_349) (q := 352) rfl (fun T314 X315 e316 => ?_)
                refine own_if0P X315 hx (hb hby at_352) (cd := .eq) (x := own_f2 (3 : Int32) (4 : Int32) z298 (((XT.ushr p5 (6 : Int32)) &&& (3 : Int32)) % (3 : Int32)) (own_sel q1 z1 z8 r) q1 z1 z8) (pt := 359) (q := 355) (by decide) (by decide) rfl rfl (fun h => False.elim (((own_fin4 _ _ _ _ _ _ _ _ _ _ hr rfl (by rw [hz304, hz297, hz290, hz283])).2.2.2.2 : ¬ ((own_f2 (3 : Int32) (4 : Int32) z298 (((XT.ushr p5 (6 : Int32)) &&& (3 : Int32)) % (3 : Int32)) (own_sel q1 z1 z8 r) q1 z1 z8) = (0 : Int32))) h)) (fun _ => ?_)
                refine own_iconst X315 hx (v := (1 : Int32)) (hb hby at_355) (q := 356) rfl rfl ?_
                refine own_goto X315 hx (hb hby at_356) (q := 360) (by decide) (by decide) ?_
                refine own_retN X315 hx hlk (t := .boolean) (by simp) Bd.returns (hb hby at_360) ?_ (by decide) (by decide)
                exact ⟨rfl, N273⟩
              refine own_icmpM X275 hx (hb hby at_265) (cd := .ne) (x := (p5 &&& (3 : Int32)) % (3 : Int32)) (y := r) (pt := 271) (q := 268) (by decide) (by decide) rfl rfl (fun (c83 : ¬ (((p5 &&& (3 : Int32)) % (3 : Int32)) = r)) => ?_) (fun (c83 : ((p5 &&& (3 : Int32)) % (3 : Int32)) = r) => ?_)
              · exact J299 _ (by rw [if_neg c83])
              · refine own_iconst X275 hx (v := (0 : Int32)) (hb hby at_268) (q := 269) rfl rfl ?_
                refine own_istore (L' := #[.val (.long q1), .second, .val (.long q2), .second, .val (.long q3), .second, .val (.int p4), .val (.int p5), .val (.int (4 : Int32)), .val (.int (XT.ushr p4 (2 : Int32))), .val (.long q1), .second, .val (.long z1), .second, .val (.long z8), .second, .val (.ref a19), .val (.int ((p5 &&& (3 : Int32)) % (3 : Int32))), .val (.int (((XT.ushr p5 (2 : Int32)) &&& (3 : Int32)) % (3 : Int32))), .val (.int (((XT.ushr p5 (4 : Int32)) &&& (3 : Int32)) % (3 : Int32))), .val (.int (((XT.ushr p5 (6 : Int32)) &&& (3 : Int32)) % (3 : Int32))), .val (.ref a230), .val (.int r), .val (.int (0 : Int32)), .unset, .unset]) X275 hx (hb hby at_269) (q := 271) rfl rfl ?_
                exact J299 _ (by rw [if_pos c83])
            refine own_icmpM X275 hx (hb hby at_255) (cd := .ne) (x := ((XT.ushr p5 (2 : Int32)) &&& (3 : Int32)) % (3 : Int32)) (y := r) (pt := 261) (q := 258) (by decide) (by decide) rfl rfl (fun (c84 : ¬ ((((XT.ushr p5 (2 : Int32)) &&& (3 : Int32)) % (3 : Int32)) = r)) => ?_) (fun (c84 : (((XT.ushr p5 (2 : Int32)) &&& (3 : Int32)) % (3 : Int32)) = r) => ?_)
            · exact J292 _ (by rw [if_neg c84])
            · refine own_iconst X275 hx (v := (1 : Int32)) (hb hby at_258) (q := 259) rfl rfl ?_
              refine own_istore (L' := #[.val (.long q1), .second, .val (.long q2), .second, .val (.long q3), .second, .val (.int p4), .val (.int p5), .val (.int (4 : Int32)), .val (.int (XT.ushr p4 (2 : Int32))), .val (.long q1), .second, .val (.long z1), .second, .val (.long z8), .second, .val (.ref a19), .val (.int ((p5 &&& (3 : Int32)) % (3 : Int32))), .val (.int (((XT.ushr p5 (2 : Int32)) &&& (3 : Int32)) % (3 : Int32))), .val (.int (((XT.ushr p5 (4 : Int32)) &&& (3 : Int32)) % (3 : Int32))), .val (.int (((XT.ushr p5 (6 : Int32)) &&& (3 : Int32)) % (3 : Int32))), .val (.ref a230), .val (.int r), .val (.int (1 : Int32)), .unset, .unset]) X275 hx (hb hby at_259) (q := 261) rfl rfl ?_
              exact J292 _ (by rw [if_pos c84])
          refine own_icmpM X275 hx (hb hby at_239) (cd := .ne) (x := ((XT.ushr p5 (4 : Int32)) &&& (3 : Int32)) % (3 : Int32)) (y := r) (pt := 245) (q := 242) (by decide) (by decide) rfl rfl (fun (c85 : ¬ ((((XT.ushr p5 (4 : Int32)) &&& (3 : Int32)) % (3 : Int32)) = r)) => ?_) (fun (c85 : (((XT.ushr p5 (4 : Int32)) &&& (3 : Int32)) % (3 : Int32)) = r) => ?_)
          · exact J285 _ (by rw [if_neg c85])
          · refine own_iconst X275 hx (v := (2 : Int32)) (hb hby at_242) (q := 243) rfl rfl ?_
            refine own_istore (L' := #[.val (.long q1), .second, .val (.long q2), .second, .val (.long q3), .second, .val (.int p4), .val (.int p5), .val (.int (4 : Int32)), .val (.int (XT.ushr p4 (2 : Int32))), .val (.long q1), .second, .val (.long z1), .second, .val (.long z8), .second, .val (.ref a19), .val (.int ((p5 &&& (3 : Int32)) % (3 : Int32))), .val (.int (((XT.ushr p5 (2 : Int32)) &&& (3 : Int32)) % (3 : Int32))), .val (.int (((XT.ushr p5 (4 : Int32)) &&& (3 : Int32)) % (3 : Int32))), .val (.int (((XT.ushr p5 (6 : Int32)) &&& (3 : Int32)) % (3 : Int32))), .val (.ref a230), .val (.int r), .val (.int (2 : Int32)), .unset, .unset]) X275 hx (hb hby at_243) (q := 245) rfl rfl ?_
            exact J285 _ (by rw [if_pos c85])
        refine own_icmpM X275 hx (hb hby at_223) (cd := .ne) (x := ((XT.ushr p5 (6 : Int32)) &&& (3 : Int32)) % (3 : Int32)) (y := r) (pt := 229) (q := 226) (by decide) (by decide) rfl rfl (fun (c86 : ¬ ((((XT.ushr p5 (6 : Int32)) &&& (3 : Int32)) % (3 : Int32)) = r)) => ?_) (fun (c86 : (((XT.ushr p5 (6 : Int32)) &&& (3 : Int32)) % (3 : Int32)) = r) => ?_)
        · exact J278 _ (by rw [if_neg c86])
        · refine own_iconst X275 hx (v := (3 : Int32)) (hb hby at_226) (q := 227) rfl rfl ?_
          refine own_istore (L' := #[.val (.long q1), .second, .val (.long q2), .second, .val (.long q3), .second, .val (.int p4), .val (.int p5), .val (.int (4 : Int32)), .val (.int (XT.ushr p4 (2 : Int32))), .val (.long q1), .second, .val (.long z1), .second, .val (.long z8), .second, .val (.ref a19), .val (.int ((p5 &&& (3 : Int32)) % (3 : Int32))), .val (.int (((XT.ushr p5 (2 : Int32)) &&& (3 : Int32)) % (3 : Int32))), .val (.int (((XT.ushr p5 (4 : Int32)) &&& (3 : Int32)) % (3 : Int32))), .val (.int (((XT.ushr p5 (6 : Int32)) &&& (3 : Int32)) % (3 : Int32))), .val (.ref a230), .val (.int r), .val (.int (3 : Int32)), .unset, .unset]) X275 hx (hb hby at_227) (q := 229) rfl rfl ?_
          exact J278 _ (by rw [if_pos c86])
    refine own_if0P X0 hx (hb hby at_36) (cd := .eq) (x := (XT.ushr p4 (2 : Int32)) &&& (2 : Int32)) (pt := 44) (q := 39) (by decide) (by decide) rfl rfl (fun (c87 : ((XT.ushr p4 (2 : Int32)) &&& (2 : Int32)) = (0 : Int32)) => ?_) (fun (c87 : ¬ (((XT.ushr p4 (2 : Int32)) &&& (2 : Int32)) = (0 : Int32))) => ?_)
    · refine own_lload X0 hx (hb hby at_44) (q := 46) rfl rfl ?_
      exact J9 _ (by rw [if_pos c87])
    · refine own_lload X0 hx (hb hby at_39) (q := 41) rfl rfl ?_
      refine own_goto X0 hx (hb hby at_41) (q := 46) (by decide) (by decide) ?_
      exact J9 _ (by rw [if_neg c87])
  refine own_if0P X0 hx (hb hby at_21) (cd := .eq) (x := (XT.ushr p4 (2 : Int32)) &&& (1 : Int32)) (pt := 29) (q := 24) (by decide) (by decide) rfl rfl (fun (c88 : ((XT.ushr p4 (2 : Int32)) &&& (1 : Int32)) = (0 : Int32)) => ?_) (fun (c88 : ¬ (((XT.ushr p4 (2 : Int32)) &&& (1 : Int32)) = (0 : Int32))) => ?_)
  · refine own_lloadN X0 hx (hb hby at_29) (q := 30) rfl rfl ?_
    exact J2 _ (by rw [if_pos c88])
  · refine own_lload X0 hx (hb hby at_24) (q := 26) rfl rfl ?_
    refine own_goto X0 hx (hb hby at_26) (q := 30) (by decide) (by decide) ?_
    exact J2 _ (by rw [if_neg c88])
set_option maxRecDepth 65536 in
set_option maxHeartbeats 40000000 in
theorem comes_1 {Post : Tables → Env → Array Value → State → Outcome → State → Prop} (hpost : ∀ tb e args s v u, (limb_1_1.after args s (.returned v) u = true ∧ limb_1_2.after args s (.returned v) u = true ∧ True) → FrameEnd s (.returned v) u (Jvm.fieldLocs frame_1_writes args s ++ Jvm.arrayLocs frame_1_arrays args s ++ Jvm.staticLocs frame_1_statics s) 16 128 → Post tb e args s (.returned v) u) :
    ArmFor flags0 classFile x code maxLocals ret World_1 tables_1 room_1 Calls_1 rest_1 Pre_1 Post := by
  intro l hfl _ _ p e ha hc hk s m args below hf hA hF happ hP
  obtain ⟨hcalls, hrest, hpre⟩ := hP
  obtain ⟨-, -, -, hnamed, -, -, -, hat⟩ := (Spec.applies_iff hf).mp happ
  obtain ⟨hg, hn⟩ := and_e (Cond.before_iff.mp (show (Jvm.Cond.and given_1 narrow_1).before args s = true from hpre))
  obtain ⟨h1, g0⟩ := and_e hg
  obtain ⟨k0, g1⟩ := and_e g0
  obtain ⟨k1, g2⟩ := and_e g1
  obtain ⟨k2, g3⟩ := and_e g2
  obtain ⟨k3, g4⟩ := and_e g3
  have k4 := g4
  obtain ⟨w0, w1, w2, w3, w4, rfl⟩ : ∃ w0 w1 w2 w3 w4 : Value, args = #[w0, w1, w2, w3, w4] := by
    have hs : args.size = 5 := by simpa [Cond.value, given_1] using h1
    obtain ⟨L⟩ := args
    match L, hs with
    | [w0, w1, w2, w3, w4], _ => exact ⟨w0, w1, w2, w3, w4, rfl⟩
  have hw := fun d (hd : d ∈ tables_1) => atoms_spec (ws := Jvm.Cond.code x code maxLocals ret :: tables_1) hat d (List.mem_cons_of_mem _ hd)
  have hfit : Fit s := fun {y c} hc i hi => by
    obtain ⟨ha, rfl⟩ := Array.getElem?_eq_some_iff.mp hc
    have q := List.all_eq_true.mp ((Array.all_eq_true_iff_forall_mem.mp hF) _ (Array.getElem_mem ha)) i (List.mem_range.mpr hi)
    simpa [Array.getElem?_eq_getElem hi] using q
  obtain ⟨i0, e0⟩ := isL_v k0
  obtain rfl : w0 = (.long i0) := Option.some.inj e0
  obtain ⟨i1, e1⟩ := isL_v k1
  obtain rfl : w1 = (.long i1) := Option.some.inj e1
  obtain ⟨i2, e2⟩ := isL_v k2
  obtain rfl : w2 = (.long i2) := Option.some.inj e2
  obtain ⟨i3, e3⟩ := is_v k3
  obtain rfl : w3 = (.int i3) := Option.some.inj e3
  obtain ⟨i4, e4⟩ := is_v k4
  obtain rfl : w4 = (.int i4) := Option.some.inj e4
  obtain ⟨n, o, h1, h2, h3, _, L, rfl, ⟨rfl, N⟩, hq⟩ := rm0 l s _ hw tables_1 i0 i1 i2 i3 i4 s.heap s.heap.size (Nat.le_refl _)  p e ha hc hk s m _ below hf ((Spec.applies_iff_loose hf).mp happ).1 ⟨rfl, State.Warmed39.refl s, rfl⟩ trivial
  refine ⟨n, _, h1, h2, h3, hpost _ _ _ _ _ _ ⟨Cond.after_iff.mpr rfl, Cond.after_iff.mpr (eq_i res_at (Term.int_eval (1)) rfl), trivial⟩ ⟨hq.1, hq.2.1, (hq.2.2.sift fun y hy => Or.inr (N y hy)).mono (by decide) (by decide)⟩⟩
theorem main_1_1 : Claimed_1_1 := comes_1 fun _ _ _ _ _ _ h hF => ⟨h.1, hF⟩
theorem main_1_2 : Claimed_1_2 := comes_1 fun _ _ _ _ _ _ h hF => ⟨h.2.1, hF⟩
end Jvm.Pilot.@@N@@
namespace Jvm.Pilot.@@N@@
open Jvm Jvm.ClassFile Sem Op Lib Jvm.Free Jvm.Stand Jvm.Pilot.@@N@@.Jvm.D
/-! MADE BY PROGRAM (witnessworld.py) out of the Statement's table words and the real class files: 12 classes; the members and pool entries that the words name. The judged class is class 1, her method 2. -/
namespace start1
open Jvm.ClassFile
def u (s : String) : CpInfo := .utf8 (stringToUtf16 s)
/-- a pool by its gaps: so many unusable entries, then the entry; so many at the end -/
def gap : Nat → List CpInfo → List CpInfo
  | 0, r => r
  | n + 1, r => .unusable :: gap n r
def poolList (es : List (Nat × CpInfo)) (last : Nat) : List CpInfo := es.foldr (fun e r => gap e.1 (e.2 :: r)) (gap last [])
def pool (es : List (Nat × CpInfo)) (last : Nat) : Array CpInfo := ⟨poolList es last⟩
def fileOf (pool : Array CpInfo) (this : Nat) (attrs : Array Attribute := #[]) (ms : Array MethodInfo := #[]) (fl : Nat := 33) (sup : Nat := 0) (ifs : Array Nat := #[]) (fds : Array FieldInfo := #[]) : ClassFile where
  minorVersion := 0
  majorVersion := 65
  constantPool := pool
  accessFlags := fl
  thisClass := this
  superClass := sup
  interfaces := ifs
  fields := fds
  methods := ms
  attributes := attrs
def plain (name : String) (sup : Option ClassId) : Class where
  name := name
  kind := .ordinary
  loader := none
  accessFlags := 33
  super := sup
  interfaces := #[]
  cf := none
  fields := #[]
  methods := #[]
  instanceTypes := #[]
  staticTypes := #[]
  resolved := #[]
  callSites := []
  init := .initialized
  statics := none
  mirror := none

def pool0 : Array CpInfo := pool [(5, u "<init>"), (0, u "()V"), (1, .class_ 10), (1, u "java/lang/Object")] 113

def k0m0 : Method := { name := "<init>", desc := "()V", sig := { parameters := [], returnType := none }, accessFlags := 1, code := none }
/-- java/lang/Object -/
def k0 : Class := { plain "java/lang/Object" none with
  accessFlags := 33
  interfaces := #[]
  cf := some (fileOf pool0 8 #[] #[{ accessFlags := 1, nameIndex := 5, descriptorIndex := 6, attributes := #[] }] 33 0 #[] #[])
  fields := #[]
  methods := #[k0m0]
  instanceTypes := #[]
  staticTypes := #[]
  resolved := Array.replicate 124 none
  statics := none }

def pool1 : Array CpInfo := pool [(2, .class_ 4), (1, u "java/lang/Object"), (0, u "<init>"), (0, u "()V"), (0, .methodref 8 9), (0, .class_ 10), (0, .nameAndType 11 12), (0, u "com/example/keys_across_workers/keysacrossworkers/routing/PartialKeyGrouping"), (0, u "leastSent"), (0, u "([I[J)I"), (0, .methodref 14 15), (0, .class_ 16), (0, .nameAndType 17 18), (0, u "com/example/keys_across_workers/keysacrossworkers/routing/PartialKeyGroupingLeastSentPinLaw"), (0, u "ok"), (0, u "(IIII[JJ)Z"), (3, u "law"), (0, u "(JJJII)Z")] 6

def k1m0 : Method := { name := "<init>", desc := "()V", sig := { parameters := [], returnType := none }, accessFlags := 2, code := none }
def k1c1 : Code := { maxStack := 4, maxLocals := 9, code := method_2_code, exceptionTable := #[], attributes := #[] }
def k1m1 : Method := { name := "ok", desc := "(IIII[JJ)Z", sig := { parameters := [.int, .int, .int, .int, (.array .long), .long], returnType := some .boolean }, accessFlags := 10, code := some k1c1 }
def k1c2 : Code := { maxStack := 7, maxLocals := 26, code := code, exceptionTable := #[], attributes := #[] }
def k1m2 : Method := { name := "law", desc := "(JJJII)Z", sig := { parameters := [.long, .long, .long, .int, .int], returnType := some .boolean }, accessFlags := 9, code := some k1c2 }
/-- com/example/keys_across_workers/keysacrossworkers/routing/PartialKeyGroupingLeastSentPinLaw -/
def k1 : Class := { plain "com/example/keys_across_workers/keysacrossworkers/routing/PartialKeyGroupingLeastSentPinLaw" (some 0) with
  accessFlags := 49
  interfaces := #[]
  cf := some (fileOf pool1 14 #[] #[{ accessFlags := 2, nameIndex := 5, descriptorIndex := 6, attributes := #[] }, { accessFlags := 10, nameIndex := 17, descriptorIndex := 18, attributes := #[] }, { accessFlags := 9, nameIndex := 22, descriptorIndex := 23, attributes := #[] }] 49 2 #[] #[])
  fields := #[]
  methods := #[k1m0, k1m1, k1m2]
  instanceTypes := #[]
  staticTypes := #[]
  resolved := Array.replicate 30 none
  statics := none }

def pool2 : Array CpInfo := pool [(1, .class_ 2), (0, u "com/example/keys_across_workers/keysacrossworkers/routing/Router"), (10, .class_ 14), (0, u "java/lang/Object"), (0, u "MAX_WORKERS"), (0, u "I"), (2, u "MAX_SOURCES")] 25

/-- com/example/keys_across_workers/keysacrossworkers/routing/Router -/
def k2 : Class := { plain "com/example/keys_across_workers/keysacrossworkers/routing/Router" (some 0) with
  accessFlags := 1537
  interfaces := #[]
  cf := some (fileOf pool2 1 #[] #[] 1537 13 #[] #[{ accessFlags := 25, nameIndex := 15, descriptorIndex := 16, attributes := #[] }, { accessFlags := 25, nameIndex := 19, descriptorIndex := 16, attributes := #[] }])
  fields := #[{ name := "MAX_WORKERS", type := .int, accessFlags := 25, slot := 0, constantValue := 0 }, { name := "MAX_SOURCES", type := .int, accessFlags := 25, slot := 1, constantValue := 0 }]
  methods := #[]
  instanceTypes := #[]
  staticTypes := #[.int, .int]
  resolved := Array.replicate 45 none
  statics := none }

def pool3 : Array CpInfo := pool [(2, .class_ 4), (1, u "java/lang/Object"), (3, .class_ 10), (1, u "com/example/keys_across_workers/keysacrossworkers/routing/PartialKeyGrouping"), (0, u "sent"), (0, u "[J"), (7, u "candidates"), (0, u "Lcom/example/keys_across_workers/keysacrossworkers/routing/Candidates;"), (14, u "leastSent"), (0, u "([I[J)I"), (0, .class_ 39), (0, u "com/example/keys_across_workers/keysacrossworkers/routing/Router")] 7

def k3c0 : Code := { maxStack := 4, maxLocals := 4, code := prog_21_method_3_code, exceptionTable := #[], attributes := #[] }
def k3m0 : Method := { name := "leastSent", desc := "([I[J)I", sig := { parameters := [(.array .int), (.array .long)], returnType := some .int }, accessFlags := 8, code := some k3c0 }
/-- com/example/keys_across_workers/keysacrossworkers/routing/PartialKeyGrouping -/
def k3 : Class := { plain "com/example/keys_across_workers/keysacrossworkers/routing/PartialKeyGrouping" (some 0) with
  accessFlags := 33
  interfaces := #[2]
  cf := some (fileOf pool3 8 #[] #[{ accessFlags := 8, nameIndex := 36, descriptorIndex := 37, attributes := #[] }] 33 2 #[38] #[{ accessFlags := 18, nameIndex := 11, descriptorIndex := 12, attributes := #[] }, { accessFlags := 18, nameIndex := 20, descriptorIndex := 21, attributes := #[] }])
  fields := #[{ name := "sent", type := (.array .long), accessFlags := 18, slot := 0, constantValue := 0 }, { name := "candidates", type := (.object "com/example/keys_across_workers/keysacrossworkers/routing/Candidates"), accessFlags := 18, slot := 1, constantValue := 0 }]
  methods := #[k3m0]
  instanceTypes := #[(.array .long), (.object "com/example/keys_across_workers/keysacrossworkers/routing/Candidates")]
  staticTypes := #[]
  resolved := Array.replicate 47 none
  statics := none }

def pool4 : Array CpInfo := pool [(1, u "java/lang/Cloneable"), (0, .class_ 1), (0, u "java/lang/Object"), (0, .class_ 3)] 3

/-- java/lang/Cloneable -/
def k4 : Class := { plain "java/lang/Cloneable" (some 0) with
  accessFlags := 1537
  interfaces := #[]
  cf := some (fileOf pool4 2 #[] #[] 1537 4 #[] #[])
  fields := #[]
  methods := #[]
  instanceTypes := #[]
  staticTypes := #[]
  resolved := Array.replicate 8 none
  statics := none }

def pool5 : Array CpInfo := pool [(1, u "java/io/Serializable"), (0, .class_ 1), (0, u "java/lang/Object"), (0, .class_ 3)] 3

/-- java/io/Serializable -/
def k5 : Class := { plain "java/io/Serializable" (some 0) with
  accessFlags := 1537
  interfaces := #[]
  cf := some (fileOf pool5 2 #[] #[] 1537 4 #[] #[])
  fields := #[]
  methods := #[]
  instanceTypes := #[]
  staticTypes := #[]
  resolved := Array.replicate 8 none
  statics := none }

/-- the primitive byte -/
def k6 : Class := { plain "byte" none with kind := .primitive 'B', accessFlags := 0x411 }
/-- [B -/
def k7 : Class := { plain "[B" (some 0) with kind := .array 6 .byte, interfaces := #[4, 5], accessFlags := 1041 }

/-- the primitive int -/
def k8 : Class := { plain "int" none with kind := .primitive 'I', accessFlags := 0x411 }
/-- [I -/
def k9 : Class := { plain "[I" (some 0) with kind := .array 8 .int, interfaces := #[4, 5], accessFlags := 1041 }

/-- the primitive long -/
def k10 : Class := { plain "long" none with kind := .primitive 'J', accessFlags := 0x411 }
/-- [J -/
def k11 : Class := { plain "[J" (some 0) with kind := .array 10 .long, interfaces := #[4, 5], accessFlags := 1041 }

def heap : Heap := #[]
def classes : Array Class := #[k0, k1, k2, k3, k4, k5, k6, k7, k8, k9, k10, k11]
def interned : List (Array UInt16 × Addr) := []
def slotsUsed : Nat := 0
def theMethod : MethodId := ⟨1, 2⟩
def args0 : Array Value := #[.long 5, .long 6, .long 7, .int 5, .int 5]
def aboutOver (below : List Frame) : State where
  vm := { classes := classes, interned := interned.toArray }
  heap := heap
  slotsUsed := slotsUsed
  threads := #[{ frames := .invoking theMethod args0 :: below }]
def below0 : List Frame := [.native { method := ⟨0, 0⟩, args := #[] }]
def about1 : State := aboutOver below0
def p0 : Program := .bare "" "" ""
def e0 : Env := launch0.env 0 0 0
theorem w_frames : about1.frames = Frame.invoking theMethod args0 :: below0 := rfl
set_option maxRecDepth 65536 in
theorem w_args : argsFit about1.vm theMethod args0 = true := by decide +kernel
set_option maxRecDepth 65536 in
theorem w_heap : heapFits about1 = true := by decide +kernel
set_option maxRecDepth 65536 in
theorem w_runnable : about1.curStatus? = some .runnable := by decide +kernel
set_option maxRecDepth 65536 in
theorem w_alone : about1.alone = true := by decide +kernel
set_option maxRecDepth 65536 in
theorem w_named : about1.methodNamed? x = some theMethod := by decide +kernel
set_option maxRecDepth 65536 in
theorem w_hears : about1.hears theMethod below0 = true := by decide +kernel
set_option maxRecDepth 65536 in
theorem w_ripe : about1.ripe theMethod args0 below0 = true := by decide +kernel
theorem w_running : about1.status = .running := rfl
set_option maxRecDepth 65536 in
theorem w_room : about1.hasRoom e0.platform room_1 = true :=
  launch0.hasRoom_least _ room_1 (by decide +kernel) (by decide +kernel) (by decide +kernel) (by decide +kernel) (by decide +kernel) (by decide +kernel)
theorem allAtoms_all (ts : List Jvm.Cond) (a : Array Jvm.Value) (st : Jvm.State) : (allAtoms ts).before a st = ts.all (fun c => c.before a st) := by
  induction ts with
  | nil => rfl
  | cons c t ih =>
    show (Jvm.Cond.and c (allAtoms t)).before a st = _
    rw [Jvm.Cond.before_and, ih, List.all_cons]
def words1 : List Jvm.Cond := Jvm.Cond.code x code maxLocals ret :: tables_1
/-- a 'code' word, met by the world's own term for the bytes: nothing is compared byte by byte -/
theorem code_word {y : MethodName} {bytes : ByteArray} {mx : Nat} {rt : Option FieldType} {a : Array Value} {s : State} {m : MethodId} {meth : Method} {c : Code} (h1 : s.methodNamed? y = some m) (h2 : s.vm.method? m = some meth) (h3 : meth.code = some c) (h4 : c.code = bytes)
    (h5 : (c.maxLocals == mx && c.exceptionTable.isEmpty && decide (c.maxStack ≤ mostOperands) && decide (meth.sig.returnType = rt) && !meth.locks && decide (parseMethodDescriptor y.desc = some meth.sig)) = true) : (Jvm.Cond.code y bytes mx rt).before a s = true := by
  simp only [Bool.and_eq_true, beq_iff_eq, Bool.not_eq_true', decide_eq_true_eq] at h5
  obtain ⟨⟨⟨⟨⟨g1, g2⟩, g3⟩, g4⟩, g5⟩, g6⟩ := h5
  simp [Cond.before, Cond.holds, Cond.value, h1, h2, h3, h4, g1, g2, g3, g4, g5, g6]
def isCode : Jvm.Cond → Bool
  | .code _ _ _ _ => true
  | _ => false
theorem all_split {L : List Jvm.Cond} {P : Jvm.Cond → Bool} (h1 : L.all (fun c => isCode c || P c) = true) (h2 : ∀ c ∈ L.filter isCode, P c = true) : L.all P = true := by
  refine List.all_eq_true.mpr fun c hc => ?_
  have h := List.all_eq_true.mp h1 c hc
  rcases Bool.eq_false_or_eq_true (isCode c) with hi | hi
  · exact h2 c (List.mem_filter.mpr ⟨hc, hi⟩)
  · simpa [hi] using h
set_option maxRecDepth 65536 in
theorem w_c0 : (Jvm.Cond.code x code maxLocals ret).before args0 about1 = true := code_word (m := ⟨1, 2⟩) (meth := k1m2) (c := k1c2) (by decide +kernel) rfl rfl rfl (by decide +kernel)
set_option maxRecDepth 65536 in
theorem w_c1 : (Jvm.Cond.code ({ cls := "com/example/keys_across_workers/keysacrossworkers/routing/PartialKeyGrouping", name := "leastSent", desc := "([I[J)I" } : Jvm.MethodName) prog_21_method_3_code (4 : Nat) (Option.some Jvm.ClassFile.FieldType.int)).before args0 about1 = true := code_word (m := ⟨3, 0⟩) (meth := k3m0) (c := k3c0) (by decide +kernel) rfl rfl rfl (by decide +kernel)
set_option maxRecDepth 65536 in
theorem w_c2 : (Jvm.Cond.code ({ cls := "com/example/keys_across_workers/keysacrossworkers/routing/PartialKeyGroupingLeastSentPinLaw", name := "ok", desc := "(IIII[JJ)Z" } : Jvm.MethodName) method_2_code (9 : Nat) (Option.some Jvm.ClassFile.FieldType.boolean)).before args0 about1 = true := code_word (m := ⟨1, 1⟩) (meth := k1m1) (c := k1c1) (by decide +kernel) rfl rfl rfl (by decide +kernel)
def codes1 : List Jvm.Cond := [Jvm.Cond.code x code maxLocals ret, Jvm.Cond.code ({ cls := "com/example/keys_across_workers/keysacrossworkers/routing/PartialKeyGrouping", name := "leastSent", desc := "([I[J)I" } : Jvm.MethodName) prog_21_method_3_code (4 : Nat) (Option.some Jvm.ClassFile.FieldType.int), Jvm.Cond.code ({ cls := "com/example/keys_across_workers/keysacrossworkers/routing/PartialKeyGroupingLeastSentPinLaw", name := "ok", desc := "(IIII[JJ)Z" } : Jvm.MethodName) method_2_code (9 : Nat) (Option.some Jvm.ClassFile.FieldType.boolean)]
set_option maxRecDepth 65536 in
theorem codes_eq : words1.filter isCode = codes1 := rfl
theorem w_codes : ∀ c ∈ words1.filter isCode, c.before args0 about1 = true := by
  rw [codes_eq]
  intro c hc
  simp only [codes1, List.mem_cons, List.not_mem_nil, or_false] at hc
  rcases hc with rfl | rfl | rfl
  · exact w_c0
  · exact w_c1
  · exact w_c2
set_option maxRecDepth 65536 in
theorem w_t1 : words1.all (fun c => isCode c || c.before args0 about1) = true := by decide +kernel
theorem w_tables : (allAtoms (Jvm.Cond.code x code maxLocals ret :: tables_1)).before args0 about1 = true := by
  rw [allAtoms_all]
  show words1.all (fun c => c.before args0 about1) = true
  refine all_split ?_ w_codes
  rw [w_t1]
set_option maxRecDepth 65536 in
theorem w_case : (Jvm.Cond.and given_1 narrow_1).before args0 about1 = true := by decide +kernel
theorem w_applies : (headSpec (Jvm.Cond.code x code maxLocals ret :: tables_1) room_1).applies x e0.platform about1 = true :=
  (Spec.applies_iff w_frames).mpr ⟨w_running, w_runnable, w_alone, w_named, w_hears, w_ripe, w_room, w_tables⟩
theorem atStart : AtStart classFile x code maxLocals ret World_1 tables_1 room_1 Calls_1 rest_1 Pre_1 launch0 p0 e0 about1 theMethod args0 below0 :=
  ⟨lists_1, trivial, launch0.admits_env _ _ _, launch0.least_env, fairChoices_fair.cas, fairChoices_fair.clock, w_frames, w_args, w_heap, w_applies, trivial, trivial, w_case⟩
end start1
theorem witness_1 : WitnessClaimed_1 := ⟨start1.p0, start1.e0, start1.about1, start1.theMethod, start1.args0, start1.below0, start1.atStart⟩
end Jvm.Pilot.@@N@@
