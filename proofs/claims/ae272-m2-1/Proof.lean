import JvmDerived
import JvmDerived.Pilot.@@N@@Statement
import JvmDerived.Pilot.@@N@@Code
set_option linter.unusedVariables false
set_option linter.unusedSimpArgs false
namespace Jvm.Pilot.@@N@@
open Jvm Jvm.ClassFile Sem Op Lib Jvm.Free Jvm.Stand Jvm.LawKit Jvm.RoadKit Bundle Jvm.Pilot.@@N@@.Jvm.D
section OwnKit
variable {p : Program} {l : Launch} {e : Env} {R : Room} {s : State} {m : MethodId} {args : Array Value} {below : List Frame} {meth : Method} {c : Code} {T : State} {locs : List Loc} {cells slots kc ks : Nat} {Q : Option Value → Heap → List Loc → Prop} {pc q : Nat} {Ls L' : Array Slot} {st : List Value}
def own_Go (p : Program) (e : Env) (below : List Frame) (s : State) (kc ks : Nat) (Q : Option Value → Heap → List Loc → Prop) (U : State) : Prop :=
  ∃ s₂ o, Steps p.tables e below U s₂ ∧ s₂.status = .running ∧ Ended s₂ below o ∧ ∃ v L, o = .returned v ∧ Q v s₂.heap L ∧ FrameEnd s o s₂ L kc ks
theorem own_via {U V : State} (h : ∀ t, Steps p.tables e below V t → Steps p.tables e below U t) (K : own_Go p e below s kc ks Q V) : own_Go p e below s kc ks Q U := by
  obtain ⟨a, b, h1, r⟩ := K; exact ⟨a, b, h _ h1, r⟩
def own_P (w : Value) (h : Heap) (v : Option Value) (h' : Heap) (L : List Loc) : Prop := v = some w ∧ h' = h ∧ L = []
theorem own_iadd (X : Stand p l e R s m args below meth c T locs cells slots) (hx : p.tables.exec = Jvm.exec) {x y : Int32} (hd : decode c.code pc = .ok (.iadd, 1)) (hq : pc + 1 = q)  (K : own_Go p e below s kc ks Q (T.setTop (mkF m q Ls (.int (x + y) :: st)))) : own_Go p e below s kc ks Q (T.setTop (mkF m pc Ls (.int y :: .int x :: st))) := by
  subst hq; exact own_via (fun t => XS.iadd X.here hx rfl hd rfl) K
theorem own_isub (X : Stand p l e R s m args below meth c T locs cells slots) (hx : p.tables.exec = Jvm.exec) {x y : Int32} (hd : decode c.code pc = .ok (.isub, 1)) (hq : pc + 1 = q)  (K : own_Go p e below s kc ks Q (T.setTop (mkF m q Ls (.int (x - y) :: st)))) : own_Go p e below s kc ks Q (T.setTop (mkF m pc Ls (.int y :: .int x :: st))) := by
  subst hq; exact own_via (fun t => XS.isub X.here hx rfl hd rfl) K
theorem own_imul (X : Stand p l e R s m args below meth c T locs cells slots) (hx : p.tables.exec = Jvm.exec) {x y : Int32} (hd : decode c.code pc = .ok (.imul, 1)) (hq : pc + 1 = q)  (K : own_Go p e below s kc ks Q (T.setTop (mkF m q Ls (.int (x * y) :: st)))) : own_Go p e below s kc ks Q (T.setTop (mkF m pc Ls (.int y :: .int x :: st))) := by
  subst hq; exact own_via (fun t => XS.imul X.here hx rfl hd rfl) K
theorem own_iand (X : Stand p l e R s m args below meth c T locs cells slots) (hx : p.tables.exec = Jvm.exec) {x y : Int32} (hd : decode c.code pc = .ok (.iand, 1)) (hq : pc + 1 = q)  (K : own_Go p e below s kc ks Q (T.setTop (mkF m q Ls (.int (x &&& y) :: st)))) : own_Go p e below s kc ks Q (T.setTop (mkF m pc Ls (.int y :: .int x :: st))) := by
  subst hq; exact own_via (fun t => XS.iand X.here hx rfl hd rfl) K
theorem own_ixor (X : Stand p l e R s m args below meth c T locs cells slots) (hx : p.tables.exec = Jvm.exec) {x y : Int32} (hd : decode c.code pc = .ok (.ixor, 1)) (hq : pc + 1 = q)  (K : own_Go p e below s kc ks Q (T.setTop (mkF m q Ls (.int (x ^^^ y) :: st)))) : own_Go p e below s kc ks Q (T.setTop (mkF m pc Ls (.int y :: .int x :: st))) := by
  subst hq; exact own_via (fun t => XT.ixor X.here hx rfl hd rfl) K
theorem own_ior (X : Stand p l e R s m args below meth c T locs cells slots) (hx : p.tables.exec = Jvm.exec) {x y : Int32} (hd : decode c.code pc = .ok (.ior, 1)) (hq : pc + 1 = q)  (K : own_Go p e below s kc ks Q (T.setTop (mkF m q Ls (.int (x ||| y) :: st)))) : own_Go p e below s kc ks Q (T.setTop (mkF m pc Ls (.int y :: .int x :: st))) := by
  subst hq; exact own_via (fun t => XT.ior X.here hx rfl hd rfl) K
theorem own_ishl (X : Stand p l e R s m args below meth c T locs cells slots) (hx : p.tables.exec = Jvm.exec) {x y : Int32} (hd : decode c.code pc = .ok (.ishl, 1)) (hq : pc + 1 = q)  (K : own_Go p e below s kc ks Q (T.setTop (mkF m q Ls (.int (x <<< (y &&& 31)) :: st)))) : own_Go p e below s kc ks Q (T.setTop (mkF m pc Ls (.int y :: .int x :: st))) := by
  subst hq; exact own_via (fun t => XT.ishl X.here hx rfl hd rfl) K
theorem own_ishr (X : Stand p l e R s m args below meth c T locs cells slots) (hx : p.tables.exec = Jvm.exec) {x y : Int32} (hd : decode c.code pc = .ok (.ishr, 1)) (hq : pc + 1 = q)  (K : own_Go p e below s kc ks Q (T.setTop (mkF m q Ls (.int (x >>> (y &&& 31)) :: st)))) : own_Go p e below s kc ks Q (T.setTop (mkF m pc Ls (.int y :: .int x :: st))) := by
  subst hq; exact own_via (fun t => XT.ishr X.here hx rfl hd rfl) K
theorem own_iushr (X : Stand p l e R s m args below meth c T locs cells slots) (hx : p.tables.exec = Jvm.exec) {x y : Int32} (hd : decode c.code pc = .ok (.iushr, 1)) (hq : pc + 1 = q)  (K : own_Go p e below s kc ks Q (T.setTop (mkF m q Ls (.int (XT.ushr x y) :: st)))) : own_Go p e below s kc ks Q (T.setTop (mkF m pc Ls (.int y :: .int x :: st))) := by
  subst hq; exact own_via (fun t => XT.iushr X.here hx rfl hd rfl) K
theorem own_idiv (X : Stand p l e R s m args below meth c T locs cells slots) (hx : p.tables.exec = Jvm.exec) {x y : Int32} (hd : decode c.code pc = .ok (.idiv, 1)) (hq : pc + 1 = q) (hy : y ≠ 0) (K : own_Go p e below s kc ks Q (T.setTop (mkF m q Ls (.int (x / y) :: st)))) : own_Go p e below s kc ks Q (T.setTop (mkF m pc Ls (.int y :: .int x :: st))) := by
  subst hq; exact own_via (fun t => XS.idiv X.here hx rfl hd rfl hy) K
theorem own_irem (X : Stand p l e R s m args below meth c T locs cells slots) (hx : p.tables.exec = Jvm.exec) {x y : Int32} (hd : decode c.code pc = .ok (.irem, 1)) (hq : pc + 1 = q) (hy : y ≠ 0) (K : own_Go p e below s kc ks Q (T.setTop (mkF m q Ls (.int (x % y) :: st)))) : own_Go p e below s kc ks Q (T.setTop (mkF m pc Ls (.int y :: .int x :: st))) := by
  subst hq; exact own_via (fun t => iremM X hx rfl hd rfl hy) K
theorem own_ineg (X : Stand p l e R s m args below meth c T locs cells slots) (hx : p.tables.exec = Jvm.exec) {x : Int32} (hd : decode c.code pc = .ok (.ineg, 1)) (hq : pc + 1 = q)  (K : own_Go p e below s kc ks Q (T.setTop (mkF m q Ls (.int (-x) :: st)))) : own_Go p e below s kc ks Q (T.setTop (mkF m pc Ls (.int x :: st))) := by
  subst hq; exact own_via (fun t => XS.ineg X.here hx rfl hd rfl) K
theorem own_ladd (X : Stand p l e R s m args below meth c T locs cells slots) (hx : p.tables.exec = Jvm.exec) {x y : Int64} (hd : decode c.code pc = .ok (.ladd, 1)) (hq : pc + 1 = q)  (K : own_Go p e below s kc ks Q (T.setTop (mkF m q Ls (.long (x + y) :: st)))) : own_Go p e below s kc ks Q (T.setTop (mkF m pc Ls (.long y :: .long x :: st))) := by
  subst hq; exact own_via (fun t => XT.ladd X.here hx rfl hd rfl) K
theorem own_lsub (X : Stand p l e R s m args below meth c T locs cells slots) (hx : p.tables.exec = Jvm.exec) {x y : Int64} (hd : decode c.code pc = .ok (.lsub, 1)) (hq : pc + 1 = q)  (K : own_Go p e below s kc ks Q (T.setTop (mkF m q Ls (.long (x - y) :: st)))) : own_Go p e below s kc ks Q (T.setTop (mkF m pc Ls (.long y :: .long x :: st))) := by
  subst hq; exact own_via (fun t => XT.lsub X.here hx rfl hd rfl) K
theorem own_lmul (X : Stand p l e R s m args below meth c T locs cells slots) (hx : p.tables.exec = Jvm.exec) {x y : Int64} (hd : decode c.code pc = .ok (.lmul, 1)) (hq : pc + 1 = q)  (K : own_Go p e below s kc ks Q (T.setTop (mkF m q Ls (.long (x * y) :: st)))) : own_Go p e below s kc ks Q (T.setTop (mkF m pc Ls (.long y :: .long x :: st))) := by
  subst hq; exact own_via (fun t => XT.lmul X.here hx rfl hd rfl) K
theorem own_land (X : Stand p l e R s m args below meth c T locs cells slots) (hx : p.tables.exec = Jvm.exec) {x y : Int64} (hd : decode c.code pc = .ok (.land, 1)) (hq : pc + 1 = q)  (K : own_Go p e below s kc ks Q (T.setTop (mkF m q Ls (.long (x &&& y) :: st)))) : own_Go p e below s kc ks Q (T.setTop (mkF m pc Ls (.long y :: .long x :: st))) := by
  subst hq; exact own_via (fun t => XT.land X.here hx rfl hd rfl) K
theorem own_lor (X : Stand p l e R s m args below meth c T locs cells slots) (hx : p.tables.exec = Jvm.exec) {x y : Int64} (hd : decode c.code pc = .ok (.lor, 1)) (hq : pc + 1 = q)  (K : own_Go p e below s kc ks Q (T.setTop (mkF m q Ls (.long (x ||| y) :: st)))) : own_Go p e below s kc ks Q (T.setTop (mkF m pc Ls (.long y :: .long x :: st))) := by
  subst hq; exact own_via (fun t => XT.lor X.here hx rfl hd rfl) K
theorem own_lxor (X : Stand p l e R s m args below meth c T locs cells slots) (hx : p.tables.exec = Jvm.exec) {x y : Int64} (hd : decode c.code pc = .ok (.lxor, 1)) (hq : pc + 1 = q)  (K : own_Go p e below s kc ks Q (T.setTop (mkF m q Ls (.long (x ^^^ y) :: st)))) : own_Go p e below s kc ks Q (T.setTop (mkF m pc Ls (.long y :: .long x :: st))) := by
  subst hq; exact own_via (fun t => XT.lxor X.here hx rfl hd rfl) K
theorem own_ldiv (X : Stand p l e R s m args below meth c T locs cells slots) (hx : p.tables.exec = Jvm.exec) {x y : Int64} (hd : decode c.code pc = .ok (.ldiv, 1)) (hq : pc + 1 = q) (hy : y ≠ 0) (K : own_Go p e below s kc ks Q (T.setTop (mkF m q Ls (.long (x / y) :: st)))) : own_Go p e below s kc ks Q (T.setTop (mkF m pc Ls (.long y :: .long x :: st))) := by
  subst hq; exact own_via (fun t => XT.ldiv X.here hx rfl hd rfl hy) K
theorem own_lshl (X : Stand p l e R s m args below meth c T locs cells slots) (hx : p.tables.exec = Jvm.exec) {x : Int64} {y : Int32} (hd : decode c.code pc = .ok (.lshl, 1)) (hq : pc + 1 = q)  (K : own_Go p e below s kc ks Q (T.setTop (mkF m q Ls (.long (x <<< (y.toInt64 &&& 63)) :: st)))) : own_Go p e below s kc ks Q (T.setTop (mkF m pc Ls (.int y :: .long x :: st))) := by
  subst hq; exact own_via (fun t => XT.lshl X.here hx rfl hd rfl) K
theorem own_lshr (X : Stand p l e R s m args below meth c T locs cells slots) (hx : p.tables.exec = Jvm.exec) {x : Int64} {y : Int32} (hd : decode c.code pc = .ok (.lshr, 1)) (hq : pc + 1 = q)  (K : own_Go p e below s kc ks Q (T.setTop (mkF m q Ls (.long (x >>> (y.toInt64 &&& 63)) :: st)))) : own_Go p e below s kc ks Q (T.setTop (mkF m pc Ls (.int y :: .long x :: st))) := by
  subst hq; exact own_via (fun t => XT.lshr X.here hx rfl hd rfl) K
theorem own_lushr (X : Stand p l e R s m args below meth c T locs cells slots) (hx : p.tables.exec = Jvm.exec) {x : Int64} {y : Int32} (hd : decode c.code pc = .ok (.lushr, 1)) (hq : pc + 1 = q)  (K : own_Go p e below s kc ks Q (T.setTop (mkF m q Ls (.long (XT.ushrL x y) :: st)))) : own_Go p e below s kc ks Q (T.setTop (mkF m pc Ls (.int y :: .long x :: st))) := by
  subst hq; exact own_via (fun t => XT.lushr X.here hx rfl hd rfl) K
theorem own_i2l (X : Stand p l e R s m args below meth c T locs cells slots) (hx : p.tables.exec = Jvm.exec) {x : Int32} (hd : decode c.code pc = .ok (.i2l, 1)) (hq : pc + 1 = q)  (K : own_Go p e below s kc ks Q (T.setTop (mkF m q Ls (.long x.toInt64 :: st)))) : own_Go p e below s kc ks Q (T.setTop (mkF m pc Ls (.int x :: st))) := by
  subst hq; exact own_via (fun t => XT.i2l X.here hx rfl hd rfl) K
theorem own_l2i (X : Stand p l e R s m args below meth c T locs cells slots) (hx : p.tables.exec = Jvm.exec) {x : Int64} (hd : decode c.code pc = .ok (.l2i, 1)) (hq : pc + 1 = q)  (K : own_Go p e below s kc ks Q (T.setTop (mkF m q Ls (.int x.toInt32 :: st)))) : own_Go p e below s kc ks Q (T.setTop (mkF m pc Ls (.long x :: st))) := by
  subst hq; exact own_via (fun t => XT.l2i X.here hx rfl hd rfl) K
theorem own_i2c (X : Stand p l e R s m args below meth c T locs cells slots) (hx : p.tables.exec = Jvm.exec) {x : Int32} (hd : decode c.code pc = .ok (.i2c, 1)) (hq : pc + 1 = q)  (K : own_Go p e below s kc ks Q (T.setTop (mkF m q Ls (.int x.toUInt32.toUInt16.toUInt32.toInt32 :: st)))) : own_Go p e below s kc ks Q (T.setTop (mkF m pc Ls (.int x :: st))) := by
  subst hq; exact own_via (fun t => XT.i2c X.here hx rfl hd rfl) K
theorem own_i2b (X : Stand p l e R s m args below meth c T locs cells slots) (hx : p.tables.exec = Jvm.exec) {x : Int32} (hd : decode c.code pc = .ok (.i2b, 1)) (hq : pc + 1 = q)  (K : own_Go p e below s kc ks Q (T.setTop (mkF m q Ls (.int x.toInt8.toInt32 :: st)))) : own_Go p e below s kc ks Q (T.setTop (mkF m pc Ls (.int x :: st))) := by
  subst hq; exact own_via (fun t => XT.i2b X.here hx rfl hd rfl) K
theorem own_lcmp (X : Stand p l e R s m args below meth c T locs cells slots) (hx : p.tables.exec = Jvm.exec) {x y : Int64} (hd : decode c.code pc = .ok (.lcmp, 1)) (hq : pc + 1 = q)  (K : own_Go p e below s kc ks Q (T.setTop (mkF m q Ls (.int (XT.cmpL x y) :: st)))) : own_Go p e below s kc ks Q (T.setTop (mkF m pc Ls (.long y :: .long x :: st))) := by
  subst hq; exact own_via (fun t => XT.lcmp X.here hx rfl hd rfl) K
theorem own_iconst (X : Stand p l e R s m args below meth c T locs cells slots) (hx : p.tables.exec = Jvm.exec) {i : Int} (v : Int32) (hd : decode c.code pc = .ok (.iconst i, 1)) (hq : pc + 1 = q) (hv : Int32.ofInt i = v) (K : own_Go p e below s kc ks Q (T.setTop (mkF m q Ls (.int v :: st)))) : own_Go p e below s kc ks Q (T.setTop (mkF m pc Ls st)) := by
  subst hq; exact own_via (fun t => XT.iconstV (v := v) X.here hx rfl hd hv) K
theorem own_bipush (X : Stand p l e R s m args below meth c T locs cells slots) (hx : p.tables.exec = Jvm.exec) {i : Int} (v : Int32) (hd : decode c.code pc = .ok (.bipush i, 2)) (hq : pc + 2 = q) (hv : (Int8.ofInt i).toInt32 = v) (K : own_Go p e below s kc ks Q (T.setTop (mkF m q Ls (.int v :: st)))) : own_Go p e below s kc ks Q (T.setTop (mkF m pc Ls st)) := by
  subst hq; exact own_via (fun t => XT.bipushV (v := v) X.here hx rfl hd hv) K
theorem own_sipush (X : Stand p l e R s m args below meth c T locs cells slots) (hx : p.tables.exec = Jvm.exec) {i : Int} (v : Int32) (hd : decode c.code pc = .ok (.sipush i, 3)) (hq : pc + 3 = q) (hv : (Int16.ofInt i).toInt32 = v) (K : own_Go p e below s kc ks Q (T.setTop (mkF m q Ls (.int v :: st)))) : own_Go p e below s kc ks Q (T.setTop (mkF m pc Ls st)) := by
  subst hq; exact own_via (fun t => XT.sipushV (v := v) X.here hx rfl hd hv) K
theorem own_lconst (X : Stand p l e R s m args below meth c T locs cells slots) (hx : p.tables.exec = Jvm.exec) {i : Fin 2} (v : Int64) (hd : decode c.code pc = .ok (.lconst i, 1)) (hq : pc + 1 = q) (hv : Int64.ofNat i = v) (K : own_Go p e below s kc ks Q (T.setTop (mkF m q Ls (.long v :: st)))) : own_Go p e below s kc ks Q (T.setTop (mkF m pc Ls st)) := by
  subst hq; exact own_via (fun t => XT.lconstV (v := v) X.here hx rfl hd hv) K
theorem own_aconstNull (X : Stand p l e R s m args below meth c T locs cells slots) (hx : p.tables.exec = Jvm.exec)  (hd : decode c.code pc = .ok (.aconst_null, 1)) (hq : pc + 1 = q)  (K : own_Go p e below s kc ks Q (T.setTop (mkF m q Ls (.null :: st)))) : own_Go p e below s kc ks Q (T.setTop (mkF m pc Ls st)) := by
  subst hq; exact own_via (fun t => XS.aconstNull X.here hx rfl hd ) K
theorem own_iloadN (X : Stand p l e R s m args below meth c T locs cells slots) (hx : p.tables.exec = Jvm.exec) {k : Fin 4} {v : Int32} (hd : decode c.code pc = .ok (.iload_n k, 1)) (hq : pc + 1 = q) (hl : Ls[k.val]? = some (.val (.int v))) (K : own_Go p e below s kc ks Q (T.setTop (mkF m q Ls (.int v :: st)))) : own_Go p e below s kc ks Q (T.setTop (mkF m pc Ls st)) := by
  subst hq; exact own_via (fun t => XS.iloadN X.here hx rfl hd hl) K
theorem own_iload (X : Stand p l e R s m args below meth c T locs cells slots) (hx : p.tables.exec = Jvm.exec) {k : Nat} {v : Int32} (hd : decode c.code pc = .ok (.iload k, 2)) (hq : pc + 2 = q) (hl : Ls[k]? = some (.val (.int v))) (K : own_Go p e below s kc ks Q (T.setTop (mkF m q Ls (.int v :: st)))) : own_Go p e below s kc ks Q (T.setTop (mkF m pc Ls st)) := by
  subst hq; exact own_via (fun t => XS.iload X.here hx rfl hd hl) K
theorem own_lloadN (X : Stand p l e R s m args below meth c T locs cells slots) (hx : p.tables.exec = Jvm.exec) {k : Fin 4} {v : Int64} (hd : decode c.code pc = .ok (.lload_n k, 1)) (hq : pc + 1 = q) (hl : Ls[k.val]? = some (.val (.long v))) (K : own_Go p e below s kc ks Q (T.setTop (mkF m q Ls (.long v :: st)))) : own_Go p e below s kc ks Q (T.setTop (mkF m pc Ls st)) := by
  subst hq; exact own_via (fun t => XT.lloadN X.here hx rfl hd hl) K
theorem own_lload (X : Stand p l e R s m args below meth c T locs cells slots) (hx : p.tables.exec = Jvm.exec) {k : Nat} {v : Int64} (hd : decode c.code pc = .ok (.lload k, 2)) (hq : pc + 2 = q) (hl : Ls[k]? = some (.val (.long v))) (K : own_Go p e below s kc ks Q (T.setTop (mkF m q Ls (.long v :: st)))) : own_Go p e below s kc ks Q (T.setTop (mkF m pc Ls st)) := by
  subst hq; exact own_via (fun t => XT.lload X.here hx rfl hd hl) K
theorem own_aloadN (X : Stand p l e R s m args below meth c T locs cells slots) (hx : p.tables.exec = Jvm.exec) {k : Fin 4} {v : Value} (hd : decode c.code pc = .ok (.aload_n k, 1)) (hq : pc + 1 = q) (hl : Ls[k.val]? = some (.val v)) (hv : v.isRef = true) (K : own_Go p e below s kc ks Q (T.setTop (mkF m q Ls (v :: st)))) : own_Go p e below s kc ks Q (T.setTop (mkF m pc Ls st)) := by
  subst hq; exact own_via (fun t => XS.aloadN X.here hx rfl hd hl hv) K
theorem own_aload (X : Stand p l e R s m args below meth c T locs cells slots) (hx : p.tables.exec = Jvm.exec) {k : Nat} {v : Value} (hd : decode c.code pc = .ok (.aload k, 2)) (hq : pc + 2 = q) (hl : Ls[k]? = some (.val v)) (hv : v.isRef = true) (K : own_Go p e below s kc ks Q (T.setTop (mkF m q Ls (v :: st)))) : own_Go p e below s kc ks Q (T.setTop (mkF m pc Ls st)) := by
  subst hq; exact own_via (fun t => XS.aload X.here hx rfl hd hl hv) K
theorem own_istoreN (X : Stand p l e R s m args below meth c T locs cells slots) (hx : p.tables.exec = Jvm.exec) {k : Fin 4} {v : Int32} (hd : decode c.code pc = .ok (.istore_n k, 1)) (hq : pc + 1 = q) (hl : storeLocals Ls k.val (.int v) = some L') (K : own_Go p e below s kc ks Q (T.setTop (mkF m q L' st))) : own_Go p e below s kc ks Q (T.setTop (mkF m pc Ls (.int v :: st))) := by
  subst hq; exact own_via (fun t => XS.istoreN X.here hx rfl hd rfl hl) K
theorem own_istore (X : Stand p l e R s m args below meth c T locs cells slots) (hx : p.tables.exec = Jvm.exec) {k : Nat} {v : Int32} (hd : decode c.code pc = .ok (.istore k, 2)) (hq : pc + 2 = q) (hl : storeLocals Ls k (.int v) = some L') (K : own_Go p e below s kc ks Q (T.setTop (mkF m q L' st))) : own_Go p e below s kc ks Q (T.setTop (mkF m pc Ls (.int v :: st))) := by
  subst hq; exact own_via (fun t => XS.istore X.here hx rfl hd rfl hl) K
theorem own_lstoreN (X : Stand p l e R s m args below meth c T locs cells slots) (hx : p.tables.exec = Jvm.exec) {k : Fin 4} {v : Int64} (hd : decode c.code pc = .ok (.lstore_n k, 1)) (hq : pc + 1 = q) (hl : storeLocals Ls k.val (.long v) = some L') (K : own_Go p e below s kc ks Q (T.setTop (mkF m q L' st))) : own_Go p e below s kc ks Q (T.setTop (mkF m pc Ls (.long v :: st))) := by
  subst hq; exact own_via (fun t => XT.lstoreN X.here hx rfl hd rfl hl) K
theorem own_lstore (X : Stand p l e R s m args below meth c T locs cells slots) (hx : p.tables.exec = Jvm.exec) {k : Nat} {v : Int64} (hd : decode c.code pc = .ok (.lstore k, 2)) (hq : pc + 2 = q) (hl : storeLocals Ls k (.long v) = some L') (K : own_Go p e below s kc ks Q (T.setTop (mkF m q L' st))) : own_Go p e below s kc ks Q (T.setTop (mkF m pc Ls (.long v :: st))) := by
  subst hq; exact own_via (fun t => XT.lstore X.here hx rfl hd rfl hl) K
theorem own_astoreN (X : Stand p l e R s m args below meth c T locs cells slots) (hx : p.tables.exec = Jvm.exec) {k : Fin 4} {v : Value} (hd : decode c.code pc = .ok (.astore_n k, 1)) (hq : pc + 1 = q) (hv : v.isRef = true) (hl : storeLocals Ls k.val v = some L') (K : own_Go p e below s kc ks Q (T.setTop (mkF m q L' st))) : own_Go p e below s kc ks Q (T.setTop (mkF m pc Ls (v :: st))) := by
  subst hq; exact own_via (fun t => XS.astoreN X.here hx rfl hd rfl hv hl) K
theorem own_astore (X : Stand p l e R s m args below meth c T locs cells slots) (hx : p.tables.exec = Jvm.exec) {k : Nat} {v : Value} (hd : decode c.code pc = .ok (.astore k, 2)) (hq : pc + 2 = q) (hv : v.isRef = true) (hl : storeLocals Ls k v = some L') (K : own_Go p e below s kc ks Q (T.setTop (mkF m q L' st))) : own_Go p e below s kc ks Q (T.setTop (mkF m pc Ls (v :: st))) := by
  subst hq; exact own_via (fun t => XS.astore X.here hx rfl hd rfl hv hl) K
theorem own_iinc (X : Stand p l e R s m args below meth c T locs cells slots) (hx : p.tables.exec = Jvm.exec) {k : Nat} {i : Int} {x : Int32} (v : Int32) (hd : decode c.code pc = .ok (.iinc k i, 3)) (hq : pc + 3 = q) (hv : Int32.ofInt i = v) (hl : Ls[k]? = some (.val (.int x))) (hl' : storeLocals Ls k (.int (x + v)) = some L') (K : own_Go p e below s kc ks Q (T.setTop (mkF m q L' st))) : own_Go p e below s kc ks Q (T.setTop (mkF m pc Ls st)) := by
  subst hq; exact own_via (fun t => XT.iincV (v := v) X.here hx rfl hd hv hl hl') K
theorem own_dup (X : Stand p l e R s m args below meth c T locs cells slots) (hx : p.tables.exec = Jvm.exec) {v : Value} (hd : decode c.code pc = .ok (.dup, 1)) (hq : pc + 1 = q) (hc : v.category = 1) (K : own_Go p e below s kc ks Q (T.setTop (mkF m q Ls (v :: v :: st)))) : own_Go p e below s kc ks Q (T.setTop (mkF m pc Ls (v :: st))) := by
  subst hq; exact own_via (fun t => XS.dup X.here hx rfl hd rfl hc) K
theorem own_pop (X : Stand p l e R s m args below meth c T locs cells slots) (hx : p.tables.exec = Jvm.exec) {v : Value} (hd : decode c.code pc = .ok (.pop, 1)) (hq : pc + 1 = q) (hc : v.category = 1) (K : own_Go p e below s kc ks Q (T.setTop (mkF m q Ls st))) : own_Go p e below s kc ks Q (T.setTop (mkF m pc Ls (v :: st))) := by
  subst hq; exact own_via (fun t => XT.pop X.here hx rfl hd rfl hc) K
theorem own_dupX1 (X : Stand p l e R s m args below meth c T locs cells slots) (hx : p.tables.exec = Jvm.exec) {v w : Value} (hd : decode c.code pc = .ok (.dup_x1, 1)) (hq : pc + 1 = q) (hc : v.category = 1) (hc' : w.category = 1) (K : own_Go p e below s kc ks Q (T.setTop (mkF m q Ls (v :: w :: v :: st)))) : own_Go p e below s kc ks Q (T.setTop (mkF m pc Ls (v :: w :: st))) := by
  subst hq; exact own_via (fun t => XT.dupX1 X.here hx rfl hd rfl hc hc') K
theorem own_dup2 (X : Stand p l e R s m args below meth c T locs cells slots) (hx : p.tables.exec = Jvm.exec) {v w : Value} (hd : decode c.code pc = .ok (.dup2, 1)) (hq : pc + 1 = q) (hc : v.category = 1) (hc' : w.category = 1) (K : own_Go p e below s kc ks Q (T.setTop (mkF m q Ls (v :: w :: v :: w :: st)))) : own_Go p e below s kc ks Q (T.setTop (mkF m pc Ls (v :: w :: st))) := by
  subst hq; exact own_via (fun t => XT.dup2 X.here hx rfl hd rfl hc hc') K
theorem own_goto (X : Stand p l e R s m args below meth c T locs cells slots) (hx : p.tables.exec = Jvm.exec) {o : Int} (hd : decode c.code pc = .ok (.goto o, 3)) (ho : 0 ≤ (pc : Int) + o) (hp : ((pc : Int) + o).toNat = q) (K : own_Go p e below s kc ks Q (T.setTop (mkF m q Ls st))) : own_Go p e below s kc ks Q (T.setTop (mkF m pc Ls st)) := by
  exact own_via (fun t => XS.goto X.here hx rfl (pc0 := pc) (pc' := q) rfl hd ho hp) K
theorem own_ldc (X : Stand p l e R s m args below meth c T locs cells slots) (hx : p.tables.exec = Jvm.exec) {Z : State} {a0 : Array Value} (hZ : Z.Warmed39 s.vm) {own : String} {i : Nat} {v : Int32} (hown : s.vm.findClass own = some m.cls) (w : (Cond.constant own i v).before a0 Z = true) (hd : decode c.code pc = .ok (.ldc i, 2)) (hq : pc + 2 = q) (K : own_Go p e below s kc ks Q (T.setTop (mkF m q Ls (.int v :: st)))) : own_Go p e below s kc ks Q (T.setTop (mkF m pc Ls st)) := by
  subst hq; exact own_via (fun t => X.ldcI hx hown (mv hZ w) rfl hd) K
theorem own_ldcW (X : Stand p l e R s m args below meth c T locs cells slots) (hx : p.tables.exec = Jvm.exec) {Z : State} {a0 : Array Value} (hZ : Z.Warmed39 s.vm) {own : String} {i : Nat} {v : Int32} (hown : s.vm.findClass own = some m.cls) (w : (Cond.constant own i v).before a0 Z = true) (hd : decode c.code pc = .ok (.ldc_w i, 3)) (hq : pc + 3 = q) (K : own_Go p e below s kc ks Q (T.setTop (mkF m q Ls (.int v :: st)))) : own_Go p e below s kc ks Q (T.setTop (mkF m pc Ls st)) := by
  subst hq; exact own_via (fun t => X.ldcWI hx hown (mv hZ w) rfl hd) K
theorem own_ldc2 (X : Stand p l e R s m args below meth c T locs cells slots) (hx : p.tables.exec = Jvm.exec) {Z : State} {a0 : Array Value} (hZ : Z.Warmed39 s.vm) {own : String} {i : Nat} {v : Int64} (hown : s.vm.findClass own = some m.cls) (w : (Cond.constantLong own i v).before a0 Z = true) (hd : decode c.code pc = .ok (.ldc2_w i, 3)) (hq : pc + 3 = q) (K : own_Go p e below s kc ks Q (T.setTop (mkF m q Ls (.long v :: st)))) : own_Go p e below s kc ks Q (T.setTop (mkF m pc Ls st)) := by
  subst hq; exact own_via (fun t => X.ldc2J hx hown (mv hZ w) rfl hd) K
def own_pos : ClassFile.Cond → Bool | .eq => true | .lt => true | .gt => true | _ => false
def own_base {α : Type} [LT α] : ClassFile.Cond → α → α → Prop | .eq, x, y => x = y | .ne, x, y => x = y | .lt, x, y => x < y | .ge, x, y => x < y | .gt, x, y => y < x | .le, x, y => y < x
theorem own_ii {cd : ClassFile.Cond} {x y : Int32} : (own_base cd x y → if_icmp.holds cd x y = own_pos cd) ∧ (¬ own_base cd x y → if_icmp.holds cd x y = !own_pos cd) := by
  cases cd <;> simp only [own_base, own_pos, Bool.not_true, Bool.not_false]
  · exact ⟨XT.ii_eq_t, XT.ii_eq_f⟩
  · exact ⟨XT.ii_ne_f, XT.ii_ne_t⟩
  · exact ⟨XT.ii_lt_t, XT.ii_lt_f⟩
  · exact ⟨XT.ii_ge_f, XT.ii_ge_t⟩
  · exact ⟨XT.ii_gt_t, XT.ii_gt_f⟩
  · exact ⟨XT.ii_le_f, XT.ii_le_t⟩
theorem own_ll {cd : ClassFile.Cond} {x y : Int64} : (own_base cd x y → ifCond.holds cd (XT.cmpL x y) = own_pos cd) ∧ (¬ own_base cd x y → ifCond.holds cd (XT.cmpL x y) = !own_pos cd) := by
  cases cd <;> simp only [own_base, own_pos, Bool.not_true, Bool.not_false]
  · exact ⟨XT.ll_eq_t, XT.ll_eq_f⟩
  · exact ⟨XT.ll_ne_f, XT.ll_ne_t⟩
  · exact ⟨XT.ll_lt_t, XT.ll_lt_f⟩
  · exact ⟨XT.ll_ge_f, XT.ll_ge_t⟩
  · exact ⟨XT.ll_gt_t, XT.ll_gt_f⟩
  · exact ⟨XT.ll_le_f, XT.ll_le_t⟩
theorem own_icmpP (X : Stand p l e R s m args below meth c T locs cells slots) (hx : p.tables.exec = Jvm.exec) {x y : Int32} {cd : ClassFile.Cond} {o : Int} {pt : Nat} (hd : decode c.code pc = .ok (.if_icmp cd o, 3)) (ho : 0 ≤ (pc : Int) + o) (hp : ((pc : Int) + o).toNat = pt) (hq : pc + 3 = q) (hs : own_pos cd = true) (K1 : own_base cd x y → own_Go p e below s kc ks Q (T.setTop (mkF m pt Ls st))) (K2 : ¬ own_base cd x y → own_Go p e below s kc ks Q (T.setTop (mkF m q Ls st))) : own_Go p e below s kc ks Q (T.setTop (mkF m pc Ls (.int y :: .int x :: st))) := by
  subst hq
  by_cases h : own_base cd x y
  · exact own_via (fun t => XS.icmpYes X.here hx rfl (pc0 := pc) (pc' := pt) rfl hd rfl ((own_ii.1 h).trans hs) ho hp) (K1 h)
  · exact own_via (fun t => XS.icmpNo X.here hx rfl hd rfl ((own_ii.2 h).trans (by rw [hs]; rfl))) (K2 h)
theorem own_icmpM (X : Stand p l e R s m args below meth c T locs cells slots) (hx : p.tables.exec = Jvm.exec) {x y : Int32} {cd : ClassFile.Cond} {o : Int} {pt : Nat} (hd : decode c.code pc = .ok (.if_icmp cd o, 3)) (ho : 0 ≤ (pc : Int) + o) (hp : ((pc : Int) + o).toNat = pt) (hq : pc + 3 = q) (hs : own_pos cd = false) (K1 : ¬ own_base cd x y → own_Go p e below s kc ks Q (T.setTop (mkF m pt Ls st))) (K2 : own_base cd x y → own_Go p e below s kc ks Q (T.setTop (mkF m q Ls st))) : own_Go p e below s kc ks Q (T.setTop (mkF m pc Ls (.int y :: .int x :: st))) := by
  subst hq
  by_cases h : own_base cd x y
  · exact own_via (fun t => XS.icmpNo X.here hx rfl hd rfl ((own_ii.1 h).trans hs)) (K2 h)
  · exact own_via (fun t => XS.icmpYes X.here hx rfl (pc0 := pc) (pc' := pt) rfl hd rfl ((own_ii.2 h).trans (by rw [hs]; rfl)) ho hp) (K1 h)
theorem own_if0P (X : Stand p l e R s m args below meth c T locs cells slots) (hx : p.tables.exec = Jvm.exec) {x : Int32} {cd : ClassFile.Cond} {o : Int} {pt : Nat} (hd : decode c.code pc = .ok (.ifCond cd o, 3)) (ho : 0 ≤ (pc : Int) + o) (hp : ((pc : Int) + o).toNat = pt) (hq : pc + 3 = q) (hs : own_pos cd = true) (K1 : own_base cd x (0 : Int32) → own_Go p e below s kc ks Q (T.setTop (mkF m pt Ls st))) (K2 : ¬ own_base cd x (0 : Int32) → own_Go p e below s kc ks Q (T.setTop (mkF m q Ls st))) : own_Go p e below s kc ks Q (T.setTop (mkF m pc Ls (.int x :: st))) := by
  subst hq
  by_cases h : own_base cd x (0 : Int32)
  · exact own_via (fun t => XS.ifYes X.here hx rfl (pc0 := pc) (pc' := pt) rfl hd rfl ((if0 cd x).trans ((own_ii (y := 0).1 h).trans hs)) ho hp) (K1 h)
  · exact own_via (fun t => XS.ifNo X.here hx rfl hd rfl ((if0 cd x).trans ((own_ii (y := 0).2 h).trans (by rw [hs]; rfl)))) (K2 h)
theorem own_if0M (X : Stand p l e R s m args below meth c T locs cells slots) (hx : p.tables.exec = Jvm.exec) {x : Int32} {cd : ClassFile.Cond} {o : Int} {pt : Nat} (hd : decode c.code pc = .ok (.ifCond cd o, 3)) (ho : 0 ≤ (pc : Int) + o) (hp : ((pc : Int) + o).toNat = pt) (hq : pc + 3 = q) (hs : own_pos cd = false) (K1 : ¬ own_base cd x (0 : Int32) → own_Go p e below s kc ks Q (T.setTop (mkF m pt Ls st))) (K2 : own_base cd x (0 : Int32) → own_Go p e below s kc ks Q (T.setTop (mkF m q Ls st))) : own_Go p e below s kc ks Q (T.setTop (mkF m pc Ls (.int x :: st))) := by
  subst hq
  by_cases h : own_base cd x (0 : Int32)
  · exact own_via (fun t => XS.ifNo X.here hx rfl hd rfl ((if0 cd x).trans ((own_ii (y := 0).1 h).trans hs))) (K2 h)
  · exact own_via (fun t => XS.ifYes X.here hx rfl (pc0 := pc) (pc' := pt) rfl hd rfl ((if0 cd x).trans ((own_ii (y := 0).2 h).trans (by rw [hs]; rfl))) ho hp) (K1 h)
theorem own_ifLP (X : Stand p l e R s m args below meth c T locs cells slots) (hx : p.tables.exec = Jvm.exec) {x y : Int64} {cd : ClassFile.Cond} {o : Int} {pt : Nat} (hd : decode c.code pc = .ok (.ifCond cd o, 3)) (ho : 0 ≤ (pc : Int) + o) (hp : ((pc : Int) + o).toNat = pt) (hq : pc + 3 = q) (hs : own_pos cd = true) (K1 : own_base cd x y → own_Go p e below s kc ks Q (T.setTop (mkF m pt Ls st))) (K2 : ¬ own_base cd x y → own_Go p e below s kc ks Q (T.setTop (mkF m q Ls st))) : own_Go p e below s kc ks Q (T.setTop (mkF m pc Ls (.int (XT.cmpL x y) :: st))) := by
  subst hq
  by_cases h : own_base cd x y
  · exact own_via (fun t => XS.ifYes X.here hx rfl (pc0 := pc) (pc' := pt) rfl hd rfl ((own_ll.1 h).trans hs) ho hp) (K1 h)
  · exact own_via (fun t => XS.ifNo X.here hx rfl hd rfl ((own_ll.2 h).trans (by rw [hs]; rfl))) (K2 h)
theorem own_ifLM (X : Stand p l e R s m args below meth c T locs cells slots) (hx : p.tables.exec = Jvm.exec) {x y : Int64} {cd : ClassFile.Cond} {o : Int} {pt : Nat} (hd : decode c.code pc = .ok (.ifCond cd o, 3)) (ho : 0 ≤ (pc : Int) + o) (hp : ((pc : Int) + o).toNat = pt) (hq : pc + 3 = q) (hs : own_pos cd = false) (K1 : ¬ own_base cd x y → own_Go p e below s kc ks Q (T.setTop (mkF m pt Ls st))) (K2 : own_base cd x y → own_Go p e below s kc ks Q (T.setTop (mkF m q Ls st))) : own_Go p e below s kc ks Q (T.setTop (mkF m pc Ls (.int (XT.cmpL x y) :: st))) := by
  subst hq
  by_cases h : own_base cd x y
  · exact own_via (fun t => XS.ifNo X.here hx rfl hd rfl ((own_ll.1 h).trans hs)) (K2 h)
  · exact own_via (fun t => XS.ifYes X.here hx rfl (pc0 := pc) (pc' := pt) rfl hd rfl ((own_ll.2 h).trans (by rw [hs]; rfl)) ho hp) (K1 h)
theorem own_acmp (X : Stand p l e R s m args below meth c T locs cells slots) (hx : p.tables.exec = Jvm.exec) {cd : ACond} {v w : Value} {o : Int} {same : Bool} (hv : v.isRef = true) (hw : w.isRef = true) (hd : decode c.code pc = .ok (.if_acmp cd o, 3)) (hs : decide (v = w) = same) (ho : 0 ≤ (pc : Int) + o) (hp : q = if acV cd same = true then ((pc : Int) + o).toNat else pc + 3) (K : own_Go p e below s kc ks Q (T.setTop (mkF m q Ls st))) : own_Go p e below s kc ks Q (T.setTop (mkF m pc Ls (w :: v :: st))) := by
  exact own_via (fun t => acmp X hx rfl hv hw (pc0 := pc) rfl hd rfl hs ho hp) K
theorem own_nullY (X : Stand p l e R s m args below meth c T locs cells slots) (hx : p.tables.exec = Jvm.exec) {o : Int} (hd : decode c.code pc = .ok (.ifnull o, 3)) (ho : 0 ≤ (pc : Int) + o) (hp : ((pc : Int) + o).toNat = q) (K : own_Go p e below s kc ks Q (T.setTop (mkF m q Ls st))) : own_Go p e below s kc ks Q (T.setTop (mkF m pc Ls (.null :: st))) := by
  exact own_via (fun t => XS.ifnullYes X.here hx rfl (pc0 := pc) (pc' := q) rfl hd rfl ho hp) K
theorem own_nullN (X : Stand p l e R s m args below meth c T locs cells slots) (hx : p.tables.exec = Jvm.exec) {o : Int} {a : Addr} (hd : decode c.code pc = .ok (.ifnull o, 3)) (hq : pc + 3 = q) (K : own_Go p e below s kc ks Q (T.setTop (mkF m q Ls st))) : own_Go p e below s kc ks Q (T.setTop (mkF m pc Ls (.ref a :: st))) := by
  subst hq; exact own_via (fun t => XS.ifnullNo X.here hx rfl hd rfl) K
theorem own_nonnullY (X : Stand p l e R s m args below meth c T locs cells slots) (hx : p.tables.exec = Jvm.exec) {o : Int} {a : Addr} (hd : decode c.code pc = .ok (.ifnonnull o, 3)) (ho : 0 ≤ (pc : Int) + o) (hp : ((pc : Int) + o).toNat = q) (K : own_Go p e below s kc ks Q (T.setTop (mkF m q Ls st))) : own_Go p e below s kc ks Q (T.setTop (mkF m pc Ls (.ref a :: st))) := by
  exact own_via (fun t => XT.ifnonnullYes X.here hx rfl (pc0 := pc) (pc' := q) rfl hd rfl ho hp) K
theorem own_nonnullN (X : Stand p l e R s m args below meth c T locs cells slots) (hx : p.tables.exec = Jvm.exec) {o : Int} (hd : decode c.code pc = .ok (.ifnonnull o, 3)) (hq : pc + 3 = q) (K : own_Go p e below s kc ks Q (T.setTop (mkF m q Ls st))) : own_Go p e below s kc ks Q (T.setTop (mkF m pc Ls (.null :: st))) := by
  subst hq; exact own_via (fun t => XT.ifnonnullNo X.here hx rfl hd rfl) K
theorem own_retN (X : Stand p l e R s m args below meth c T locs cells slots) (hx : p.tables.exec = Jvm.exec) (hlk : meth.locks = false) {rest : List Value} {z : Int32} {t : FieldType} (ht : t = .boolean ∨ t = .byte ∨ t = .char ∨ t = .short) (hret : meth.sig.returnType = some t) (hd : decode c.code pc = .ok (.ireturn, 1)) (hqq : Q (some (.int (nar t z))) T.heap locs) (hc : cells ≤ kc) (hs : slots ≤ ks)  : own_Go p e below s kc ks Q (T.setTop (mkF m pc Ls (.int z :: rest))) := by
  obtain ⟨fs, hr, hrun, hended, hW, hsame⟩ := X.leave (v := (some (.int (nar t z)))) (fun h => by rw [hret] at h; cases h) hlk
  exact ⟨_, _, retN X hx hret ht hd hr, hrun, hended, _, _, rfl, hqq, ⟨_, rfl⟩, hW, hsame.mono hc hs⟩
theorem own_retI (X : Stand p l e R s m args below meth c T locs cells slots) (hx : p.tables.exec = Jvm.exec) (hlk : meth.locks = false) {rest : List Value} {z : Int32} (hret : meth.sig.returnType = some .int) (hd : decode c.code pc = .ok (.ireturn, 1)) (hqq : Q (some (.int z)) T.heap locs) (hc : cells ≤ kc) (hs : slots ≤ ks)  : own_Go p e below s kc ks Q (T.setTop (mkF m pc Ls (.int z :: rest))) := by
  obtain ⟨fs, hr, hrun, hended, hW, hsame⟩ := X.leave (v := (some (.int z))) (fun h => by rw [hret] at h; cases h) hlk
  exact ⟨_, _, retOut X hx hret rfl (Or.inl ⟨rfl, Or.inl rfl, z, rfl⟩) hd hr, hrun, hended, _, _, rfl, hqq, ⟨_, rfl⟩, hW, hsame.mono hc hs⟩
theorem own_retJ (X : Stand p l e R s m args below meth c T locs cells slots) (hx : p.tables.exec = Jvm.exec) (hlk : meth.locks = false) {rest : List Value} {z : Int64} (hret : meth.sig.returnType = some .long) (hd : decode c.code pc = .ok (.lreturn, 1)) (hqq : Q (some (.long z)) T.heap locs) (hc : cells ≤ kc) (hs : slots ≤ ks)  : own_Go p e below s kc ks Q (T.setTop (mkF m pc Ls (.long z :: rest))) := by
  obtain ⟨fs, hr, hrun, hended, hW, hsame⟩ := X.leave (v := (some (.long z))) (fun h => by rw [hret] at h; cases h) hlk
  exact ⟨_, _, retOut X hx hret rfl (Or.inr (Or.inl ⟨rfl, rfl, z, rfl⟩)) hd hr, hrun, hended, _, _, rfl, hqq, ⟨_, rfl⟩, hW, hsame.mono hc hs⟩
theorem own_retA (X : Stand p l e R s m args below meth c T locs cells slots) (hx : p.tables.exec = Jvm.exec) (hlk : meth.locks = false) {rest : List Value} {w : Value} {t : FieldType} (hw : w.isRef = true) (ht : t.isReference = true) (hn : narrow t w = w) (hret : meth.sig.returnType = some t) (hd : decode c.code pc = .ok (.areturn, 1)) (hqq : Q (some w) T.heap locs) (hc : cells ≤ kc) (hs : slots ≤ ks)  : own_Go p e below s kc ks Q (T.setTop (mkF m pc Ls (w :: rest))) := by
  obtain ⟨fs, hr, hrun, hended, hW, hsame⟩ := X.leave (v := (some w)) (fun h => by rw [hret] at h; cases h) hlk
  exact ⟨_, _, retOut X hx hret hn (Or.inr (Or.inr (Or.inr (Or.inr ⟨rfl, ht, hw⟩)))) hd hr, hrun, hended, _, _, rfl, hqq, ⟨_, rfl⟩, hW, hsame.mono hc hs⟩
theorem own_retV (X : Stand p l e R s m args below meth c T locs cells slots) (hx : p.tables.exec = Jvm.exec) (hlk : meth.locks = false) {rest : List Value} (hret : meth.sig.returnType = none) (hd : decode c.code pc = .ok (.return_, 1)) (hqq : Q none T.heap locs) (hc : cells ≤ kc) (hs : slots ≤ ks)  : own_Go p e below s kc ks Q (T.setTop (mkF m pc Ls [])) := by
  obtain ⟨fs, hr, hrun, hended, hW, hsame⟩ := X.leave (v := none) (fun _ => rfl) hlk
  exact ⟨_, _, X.returnOut hx hret hd hr, hrun, hended, _, _, rfl, hqq, ⟨_, rfl⟩, hW, hsame.mono hc hs⟩
theorem own_callS (X : Stand p l e R s m args below meth c T locs cells slots) (hx : p.tables.exec = Jvm.exec) {Z : State} {a0 : Array Value} {h : Heap} {own : String} {index : Nat} {y : MethodName} {bytes : ByteArray} {maxL : Nat} {ret : Option FieldType} {rm : Room} {W : Nat} {argsL : List Value} {Qc : Option Value → Heap → List Loc → Prop} {ps : List FieldType} {r : Option FieldType} {st0 : List Value} (hZ : Z.Warmed39 s.vm) (hown : s.vm.findClass own = some m.cls) (w1 : (Cond.methodLink own index y).before a0 Z = true) (w2 : (Cond.static y).before a0 Z = true) (w3 : (Cond.initialized y.cls).before a0 Z = true) (w4 : (Cond.code y bytes maxL ret).before a0 Z = true) (hy : y.cls ≠ "java/lang/invoke/MethodHandle" ∧ y.cls ≠ "java/lang/invoke/VarHandle") (hM : MetFree l y (head1 [Cond.code y bytes maxL ret] rm) (fun aa U => aa = argsL.toArray ∧ Z.Warmed39 U.vm ∧ U.heap = h) (fun _ _ _ _ _ => True) (fun _ U o U' => ∃ v L, o = .returned v ∧ Qc v U'.heap L ∧ FrameEnd U o U' L rm.cells rm.slots)) (hpd : parseMethodDescriptor y.desc = some ⟨ps, r⟩) (hlen : argsL.length = ps.length) (eT : T.heap = h) (hml : Ls.size = c.maxLocals) (hst : st0 = argsL.reverse ++ st) (hW : (st.map fun v => v.category).sum ≤ W) (hf : rm.frames + 1 ≤ R.frames) (hl : W + (maxL + 11) + rm.locals ≤ R.locals) (hc : cells + rm.cells ≤ R.cells) (hs : slots + rm.slots ≤ R.slots) (hd : decode c.code pc = .ok (.invokestatic index, 3)) (hq : pc + 3 = q) (K : ∀ v T' L, Stand p l e R s m args below meth c T' (locs ++ L) (cells + rm.cells) (slots + rm.slots) → Qc v T'.heap L → own_Go p e below s kc ks Q (T'.setTop (mkF m q Ls (v.toList ++ st)))) : own_Go p e below s kc ks Q (T.setTop (mkF m pc Ls st0)) := by
  subst hq hst
  obtain ⟨v, _, ⟨T', L', k', n'⟩, -, X', ⟨Lc, hQ, l', y', z'⟩, st'⟩ := Jvm.LawKit.callS X hx hown (mvT hZ w1) (mvT hZ w2) (mvT hZ w3) (mvT hZ w4) hy (backOf (W := W) hM hZ w4 w3 hf hl) (g := mkF m pc Ls (argsL.reverse ++ st)) rfl hml (argsL := argsL) (rest := st) (lenOf hpd hlen) rfl (by show 2 * 0 + _ ≤ _; omega) hd (fun _ _ => ⟨rfl, eT, hc, hs⟩)
  dsimp only [Pt.U, Pt.locs, Pt.cells, Pt.slots] at X' l' y' z' st' hQ
  subst l' y' z'
  exact own_via (fun t => st' t) (K v T' Lc X' hQ)
theorem own_callC (X : Stand p l e R s m args below meth c T locs cells slots) (hx : p.tables.exec = Jvm.exec) {a : Addr} {Z : State} {a0 : Array Value} {h : Heap} {own : String} {index : Nat} {y : MethodName} {bytes : ByteArray} {maxL : Nat} {rm : Room} {W : Nat} {argsL : List Value} {Qc : Option Value → Heap → List Loc → Prop} {ps : List FieldType} {r : Option FieldType} {st0 : List Value} (hZ : Z.Warmed39 s.vm) (hown : s.vm.findClass own = some m.cls) (hy1 : y.name = "<init>") (w1 : (Cond.methodLink own index y).before a0 Z = true) (w2 : (Cond.instanceMethod y).before a0 Z = true) (w3 : (Cond.initialized y.cls).before a0 Z = true) (w4 : (Cond.code y bytes maxL none).before a0 Z = true) (hy : y.cls ≠ "java/lang/invoke/MethodHandle" ∧ y.cls ≠ "java/lang/invoke/VarHandle") (hM : MetFree l y (head1 [Cond.code y bytes maxL none] rm) (fun aa U => aa = (.ref a :: argsL).toArray ∧ Z.Warmed39 U.vm ∧ U.heap = h) (fun _ _ _ _ _ => True) (fun _ U o U' => ∃ v L, o = .returned v ∧ Qc v U'.heap L ∧ FrameEnd U o U' L rm.cells rm.slots)) (hpd : parseMethodDescriptor y.desc = some ⟨ps, r⟩) (hlen : argsL.length = ps.length) (eT : T.heap = h) (hml : Ls.size = c.maxLocals) (hst : st0 = argsL.reverse ++ .ref a :: st) (hW : (st.map fun v => v.category).sum ≤ W) (hf : rm.frames + 1 ≤ R.frames) (hl : W + (maxL + 11) + rm.locals ≤ R.locals) (hc : cells + rm.cells ≤ R.cells) (hs : slots + rm.slots ≤ R.slots) (hd : decode c.code pc = .ok (.invokespecial index, 3)) (hq : pc + 3 = q) (K : ∀ v T' L, Stand p l e R s m args below meth c T' (locs ++ L) (cells + rm.cells) (slots + rm.slots) → Qc v T'.heap L → own_Go p e below s kc ks Q (T'.setTop (mkF m q Ls (v.toList ++ st)))) : own_Go p e below s kc ks Q (T.setTop (mkF m pc Ls st0)) := by
  subst hq hst
  obtain ⟨v, _, ⟨T', L', k', n'⟩, -, X', ⟨Lc, hQ, l', y', z'⟩, st'⟩ := X.specialBack hx hy1 hown (mvT hZ w1) (mvT hZ w2) (mvT hZ w4) hy (backOf (W := W) hM hZ w4 w3 hf hl) (g := mkF m pc Ls (argsL.reverse ++ .ref a :: st)) rfl hml (Steps.refl _) (a := a) (argsL := argsL) (rest := st) (lenOf hpd hlen) rfl (by show 2 * 0 + _ ≤ _; omega) hd (fun _ _ => ⟨rfl, eT, hc, hs⟩)
  dsimp only [Pt.U, Pt.locs, Pt.cells, Pt.slots] at X' l' y' z' st' hQ
  subst l' y' z'
  exact own_via (fun t => st'.trans) (K v T' Lc X' hQ)
theorem own_callV (X : Stand p l e R s m args below meth c T locs cells slots) (hx : p.tables.exec = Jvm.exec) {a : Addr} {C : String} {z : MethodName} {Z : State} {a0 : Array Value} {h : Heap} {own : String} {index : Nat} {y : MethodName} {bytes : ByteArray} {maxL : Nat} {ret : Option FieldType} {rm : Room} {W : Nat} {argsL : List Value} {Qc : Option Value → Heap → List Loc → Prop} {ps : List FieldType} {r : Option FieldType} {st0 : List Value} (hZ : Z.Warmed39 s.vm) (hown : s.vm.findClass own = some m.cls) (w1 : (Cond.methodLink own index y).before a0 Z = true) (w2 : (Cond.declares y).before a0 Z = true) (w5 : (Cond.selects y.cls y y).before a0 Z = true) (w6 : (Cond.selects C y z).before a0 Z = true) (w7 : (Cond.instanceMethod z).before a0 Z = true) (w3 : (Cond.initialized z.cls).before a0 Z = true) (w4 : (Cond.code z bytes maxL ret).before a0 Z = true) (E : Exa Z h a C) (hy : y.cls ≠ "java/lang/invoke/MethodHandle" ∧ y.cls ≠ "java/lang/invoke/VarHandle") (hM : MetFree l z (head1 [Cond.code z bytes maxL ret] rm) (fun aa U => aa = (.ref a :: argsL).toArray ∧ Z.Warmed39 U.vm ∧ U.heap = h) (fun _ _ _ _ _ => True) (fun _ U o U' => ∃ v L, o = .returned v ∧ Qc v U'.heap L ∧ FrameEnd U o U' L rm.cells rm.slots)) (hpd : parseMethodDescriptor y.desc = some ⟨ps, r⟩) (hlen : argsL.length = ps.length) (eT : T.heap = h) (hml : Ls.size = c.maxLocals) (hst : st0 = argsL.reverse ++ .ref a :: st) (hW : (st.map fun v => v.category).sum ≤ W) (hf : rm.frames + 1 ≤ R.frames) (hl : W + (maxL + 11) + rm.locals ≤ R.locals) (hc : cells + rm.cells ≤ R.cells) (hs : slots + rm.slots ≤ R.slots) (hd : decode c.code pc = .ok (.invokevirtual index, 3)) (hq : pc + 3 = q) (K : ∀ v T' L, Stand p l e R s m args below meth c T' (locs ++ L) (cells + rm.cells) (slots + rm.slots) → Qc v T'.heap L → own_Go p e below s kc ks Q (T'.setTop (mkF m q Ls (v.toList ++ st)))) : own_Go p e below s kc ks Q (T.setTop (mkF m pc Ls st0)) := by
  subst hq hst
  obtain ⟨cq, kq, qa, qb, qc⟩ := isOf hZ eT E
  obtain ⟨v, _, ⟨T', L', k', n'⟩, -, X', ⟨Lc, hQ, l', y', z'⟩, st'⟩ := X.virtualBack hx (y := y) (z := z) hown (mvT hZ w1) (mvT hZ w2) (notFace_of_selects (args := #[]) (mvT hZ w5)) (mvT hZ w6) (mvT hZ w7) hy (backOf (W := W) hM hZ w4 w3 hf hl) qa qc (g := mkF m pc Ls (argsL.reverse ++ .ref a :: st)) rfl hml (Steps.refl _) (argsL := argsL) (rest := st) (lenOf hpd hlen) rfl (by show 2 * 0 + _ ≤ _; omega) hd (fun _ _ => ⟨rfl, eT, hc, hs⟩)
  dsimp only [Pt.U, Pt.locs, Pt.cells, Pt.slots] at X' l' y' z' st' hQ
  subst l' y' z'
  exact own_via (fun t => st'.trans) (K v T' Lc X' hQ)
theorem own_new (X : Stand p l e R s m args below meth c T locs cells slots) (hx : p.tables.exec = Jvm.exec) {Z : State} {a0 : Array Value} {h : Heap} (hZ : Z.Warmed39 s.vm) {own : String} {i : Nat} (hown : s.vm.findClass own = some m.cls) {C : String} {n : Nat} (w : (Cond.classLink own i C).before a0 Z = true) (wi : (Cond.instantiable C n).before a0 Z = true) (wz : (Cond.initialized C).before a0 Z = true) (eT : T.heap = h) (hd : decode c.code pc = .ok (.new i, 3)) (hc : cells + 1 ≤ R.cells) (hl : slots + n ≤ R.slots) (hq : pc + 3 = q) (K : ∀ T' h' a, Stand p l e R s m args below meth c T' locs (cells + 1) (slots + n) → T'.heap = h' → a = h.size → Ext h h' → Exa Z h' a C → (∀ {O nm d : String} {ty : FieldType}, Laid Z a0 C O nm d → parseFieldDescriptor d = some ty → Fld Z h' a O nm d (defaultValue ty)) → own_Go p e below s kc ks Q (T'.setTop (mkF m q Ls (.ref a :: st)))) : own_Go p e below s kc ks Q (T.setTop (mkF m pc Ls st)) := by
  subst hq
  obtain ⟨T', h', X', e', E', A', D', -, st'⟩ := newO X hx hZ hown w wi wz eT (g := mkF m pc Ls st) rfl hd hc hl
  exact own_via (fun t => st' t) (K T' h' _ X' e' rfl E' A' D')
theorem own_getF (X : Stand p l e R s m args below meth c T locs cells slots) (hx : p.tables.exec = Jvm.exec) {Z : State} {a0 : Array Value} {h : Heap} (hZ : Z.Warmed39 s.vm) {own : String} {i : Nat} (hown : s.vm.findClass own = some m.cls) {a : Addr} {v : Value} {R0 O n d host : String} (w : (Cond.fieldLink own i R0 n d).before a0 Z = true ∨ (Cond.fieldLinkNest own i R0 n d host).before a0 Z = true) (via : Via Z R0 O n d) (eT : T.heap = h) (F : Fld Z h a O n d v) (hd : decode c.code pc = .ok (.getfield i, 3)) (hq : pc + 3 = q) (K : ∀ T', Stand p l e R s m args below meth c T' locs cells slots → T'.heap = h → own_Go p e below s kc ks Q (T'.setTop (mkF m q Ls (v :: st)))) : own_Go p e below s kc ks Q (T.setTop (mkF m pc Ls (.ref a :: st))) := by
  subst hq
  obtain ⟨T', X', e', st'⟩ := getF X hx hZ hown w via eT F (g := mkF m pc Ls (.ref a :: st)) rfl rfl hd
  exact own_via (fun t => st' t) (K T' X' e')
theorem own_putF (X : Stand p l e R s m args below meth c T locs cells slots) (hx : p.tables.exec = Jvm.exec) {Z : State} {a0 : Array Value} {h : Heap} (hZ : Z.Warmed39 s.vm) {own : String} {i : Nat} (hown : s.vm.findClass own = some m.cls) {a : Addr} {v old : Value} {R0 O n d host C : String} {kk : Nat} {ty : FieldType} (w : (Cond.fieldLink own i R0 n d).before a0 Z = true ∨ (Cond.fieldLinkNest own i R0 n d host).before a0 Z = true) (via : Via Z R0 O n d) (eT : T.heap = h) (F : Fld Z h a O n d old) (E : Exa Z h a C) (L : (Cond.lays C O n d).before a0 Z = true ∨ ((Cond.laysFinal C O n d).before a0 Z = true ∧ own = O ∧ meth.name = "<init>")) (wi : (Cond.instantiable C kk).before a0 Z = true) (hty : parseFieldDescriptor d = some ty) (hn : narrow ty v = v) (hf : fits ty v = true) (hd : decode c.code pc = .ok (.putfield i, 3)) (hq : pc + 3 = q) (K : ∀ T' h', Stand p l e R s m args below meth c T' (locs ++ [⟨a, RoadKit.slotOf Z O n d⟩]) cells slots → T'.heap = h' → Wr h h' a (RoadKit.slotOf Z O n d) v → own_Go p e below s kc ks Q (T'.setTop (mkF m q Ls st))) : own_Go p e below s kc ks Q (T.setTop (mkF m pc Ls (v :: .ref a :: st))) := by
  subst hq
  obtain ⟨T', h', X', e', W', st'⟩ := putF X hx hZ hown w via eT F E L wi hty hn hf (g := mkF m pc Ls (v :: .ref a :: st)) rfl rfl hd
  exact own_via (fun t => st' t) (K T' h' X' e' W')
theorem own_initO (X : Stand p l e R s m args below meth c T locs cells slots) (hx : p.tables.exec = Jvm.exec) {Z : State} {a0 : Array Value} {h : Heap} (hZ : Z.Warmed39 s.vm) {own : String} {i : Nat} (hown : s.vm.findClass own = some m.cls) {a : Addr} {W : Nat} (w1 : (Cond.methodLink own i Lib.objectInit).before a0 Z = true) (w2 : (Cond.instanceMethod Lib.objectInit).before a0 Z = true) (w3 : (Cond.code Lib.objectInit ⟨#[0xb1]⟩ 1 none).before a0 Z = true) (eT : T.heap = h) (hml : Ls.size = c.maxLocals) (hf : 1 ≤ R.frames) (hW : (st.map fun v => v.category).sum ≤ W) (hl : W + 12 ≤ R.locals) (hd : decode c.code pc = .ok (.invokespecial i, 3)) (hq : pc + 3 = q) (K : ∀ T', Stand p l e R s m args below meth c T' locs cells slots → T'.heap = h → own_Go p e below s kc ks Q (T'.setTop (mkF m q Ls st))) : own_Go p e below s kc ks Q (T.setTop (mkF m pc Ls (.ref a :: st))) := by
  subst hq
  obtain ⟨T', X', e', st'⟩ := initO X hx hZ hown w1 w2 w3 eT (g := mkF m pc Ls (.ref a :: st)) rfl hml rfl hd hf (W := W) (by show 2 * 0 + _ ≤ _; omega) hl
  exact own_via (fun t => st' t) (K T' X' e')
theorem own_getS (X : Stand p l e R s m args below meth c T locs cells slots) (hx : p.tables.exec = Jvm.exec) {Z : State} {a0 : Array Value} {h : Heap} (hZ : Z.Warmed39 s.vm) {own : String} {i : Nat} (hown : s.vm.findClass own = some m.cls) {v : Value} {R0 O n d : String} (w : (Cond.fieldLink own i R0 n d).before a0 Z = true) (via : Via Z R0 O n d) (eT : T.heap = h) (F : Sta Z h O n d v) (hd : decode c.code pc = .ok (.getstatic i, 3)) (hq : pc + 3 = q) (K : ∀ T', Stand p l e R s m args below meth c T' locs cells slots → T'.heap = h → own_Go p e below s kc ks Q (T'.setTop (mkF m q Ls (v :: st)))) : own_Go p e below s kc ks Q (T.setTop (mkF m pc Ls st)) := by
  subst hq
  obtain ⟨T', X', e', st'⟩ := getS X hx hZ (host := "") hown w via eT F (g := mkF m pc Ls st) rfl hd
  exact own_via (fun t => st' t) (K T' X' e')
def own_V (h : Heap) (v : Option Value) (h' : Heap) (L : List Loc) : Prop := v = none ∧ h' = h ∧ L = []
def own_Like (X : Stand p l e R s m args below meth c T locs cells slots) (T' : State) : Prop := Stand p l e R s m args below meth c T' locs cells slots ∧ T'.heap = T.heap
def own_A (Z : State) (h : Heap) (a : Addr) (ty : FieldType) (vs : List Value) : Prop := ∃ c : Cell, Arr Z h a c ty ∧ c.slots.toList = vs
theorem own_A.lt {Z : State} {h : Heap} {a : Addr} {ty : FieldType} {vs : List Value} (F : own_A Z h a ty vs) : a < h.size := by obtain ⟨c, A, -⟩ := F; exact A.lt
theorem own_A.ext {Z : State} {h h' : Heap} {a : Addr} {ty : FieldType} {vs : List Value} (F : own_A Z h a ty vs) (E : Ext h h') : own_A Z h' a ty vs := by obtain ⟨c, A, r⟩ := F; exact ⟨c, A.ext E, r⟩
theorem own_A.other {Z : State} {h h' : Heap} {a b : Addr} {ty : FieldType} {vs : List Value} {sl : Nat} {v : Value} (F : own_A Z h b ty vs) (W : Wr h h' a sl v) (q : b ≠ a) : own_A Z h' b ty vs := by obtain ⟨c, A, r⟩ := F; exact ⟨c, A.other W q, r⟩
theorem own_A.keep {Z : State} {h h' : Heap} {a : Addr} {ty : FieldType} {vs : List Value} {ws : List Addr} (F : own_A Z h a ty vs) (K : Keep h h' ws) (q : a ∉ ws) : own_A Z h' a ty vs := by obtain ⟨c, A, r⟩ := F; exact ⟨c, ⟨K.2.1 a c A.1 q, A.2⟩, r⟩
theorem own_A.set {Z : State} {h h' : Heap} {a : Addr} {ty : FieldType} {vs : List Value} {i : Nat} {v : Value} (F : own_A Z h a ty vs) (W : Wr h h' a i v) : own_A Z h' a ty (vs.set i v) := by
  obtain ⟨c, A, rfl⟩ := F; exact ⟨_, A.same W, by simp [Cell.setSlot]⟩
theorem own_in {c : Cell} {j : Int32} {i : Nat} (hn : ¬ j < 0) (hj : j.toNatClampNeg = i) (hi : i < c.slots.toList.length) : ¬ (j < 0 ∨ c.slots.size ≤ j.toNatClampNeg) := by
  rintro (h | h)
  · exact hn h
  · rw [hj] at h; rw [Array.length_toList] at hi; exact absurd hi (Nat.not_lt.mpr h)
theorem own_iaload (X : Stand p l e R s m args below meth c T locs cells slots) (hx : p.tables.exec = Jvm.exec) {Z : State} {h : Heap} (hZ : Z.Warmed39 s.vm) {a : Addr} {j : Int32} {i : Nat} {vs : List Value} (eT : T.heap = h) {v : Value} (F : own_A Z h a .int vs) (hn : ¬ j < 0) (hj : j.toNatClampNeg = i) (hv : vs[i]? = some v) (hd : decode c.code pc = .ok (.iaload, 1)) (hq : pc + 1 = q) (K : own_Go p e below s kc ks Q (T.setTop (mkF m q Ls (v :: st)))) : own_Go p e below s kc ks Q (T.setTop (mkF m pc Ls (.int j :: .ref a :: st))) := by
  subst hq
  obtain ⟨cl, A, rfl⟩ := F
  have hv' : cl.slots[j.toNatClampNeg]? = some v := by rw [hj, ← Array.getElem?_toList]; exact hv
  have hin := own_in (c := cl) hn hj (List.getElem?_eq_some_iff.mp hv).1
  exact own_via (fun t => X.iaload hx (by rw [eT]; exact A.1) (State.isArrayOf_alike hZ.alike A.2.1) A.2.2 hin hv' (g := mkF m pc Ls (.int j :: .ref a :: st)) rfl rfl hd t) K
theorem own_laload (X : Stand p l e R s m args below meth c T locs cells slots) (hx : p.tables.exec = Jvm.exec) {Z : State} {h : Heap} (hZ : Z.Warmed39 s.vm) {a : Addr} {j : Int32} {i : Nat} {vs : List Value} (eT : T.heap = h) {v : Value} (F : own_A Z h a .long vs) (hn : ¬ j < 0) (hj : j.toNatClampNeg = i) (hv : vs[i]? = some v) (hd : decode c.code pc = .ok (.laload, 1)) (hq : pc + 1 = q) (K : own_Go p e below s kc ks Q (T.setTop (mkF m q Ls (v :: st)))) : own_Go p e below s kc ks Q (T.setTop (mkF m pc Ls (.int j :: .ref a :: st))) := by
  subst hq
  obtain ⟨cl, A, rfl⟩ := F
  have hv' : cl.slots[j.toNatClampNeg]? = some v := by rw [hj, ← Array.getElem?_toList]; exact hv
  have hin := own_in (c := cl) hn hj (List.getElem?_eq_some_iff.mp hv).1
  exact own_via (fun t => X.laload hx (by rw [eT]; exact A.1) (State.isArrayOf_alike hZ.alike A.2.1) A.2.2 hin hv' (g := mkF m pc Ls (.int j :: .ref a :: st)) rfl rfl hd t) K
theorem own_caload (X : Stand p l e R s m args below meth c T locs cells slots) (hx : p.tables.exec = Jvm.exec) {Z : State} {h : Heap} (hZ : Z.Warmed39 s.vm) {a : Addr} {j : Int32} {i : Nat} {vs : List Value} (eT : T.heap = h) {v : Value} (F : own_A Z h a .char vs) (hn : ¬ j < 0) (hj : j.toNatClampNeg = i) (hv : vs[i]? = some v) (hd : decode c.code pc = .ok (.caload, 1)) (hq : pc + 1 = q) (K : own_Go p e below s kc ks Q (T.setTop (mkF m q Ls (v :: st)))) : own_Go p e below s kc ks Q (T.setTop (mkF m pc Ls (.int j :: .ref a :: st))) := by
  subst hq
  obtain ⟨cl, A, rfl⟩ := F
  have hv' : cl.slots[j.toNatClampNeg]? = some v := by rw [hj, ← Array.getElem?_toList]; exact hv
  have hin := own_in (c := cl) hn hj (List.getElem?_eq_some_iff.mp hv).1
  exact own_via (fun t => X.caload hx (by rw [eT]; exact A.1) (State.isArrayOf_alike hZ.alike A.2.1) A.2.2 hin hv' (g := mkF m pc Ls (.int j :: .ref a :: st)) rfl rfl hd t) K
theorem own_baload (X : Stand p l e R s m args below meth c T locs cells slots) (hx : p.tables.exec = Jvm.exec) {Z : State} {h : Heap} (hZ : Z.Warmed39 s.vm) {a : Addr} {j : Int32} {i : Nat} {vs : List Value} (eT : T.heap = h) {v : Value} (F : own_A Z h a .byte vs) (hn : ¬ j < 0) (hj : j.toNatClampNeg = i) (hv : vs[i]? = some v) (hd : decode c.code pc = .ok (.baload, 1)) (hq : pc + 1 = q) (K : own_Go p e below s kc ks Q (T.setTop (mkF m q Ls (v :: st)))) : own_Go p e below s kc ks Q (T.setTop (mkF m pc Ls (.int j :: .ref a :: st))) := by
  subst hq
  obtain ⟨cl, A, rfl⟩ := F
  have hv' : cl.slots[j.toNatClampNeg]? = some v := by rw [hj, ← Array.getElem?_toList]; exact hv
  have hin := own_in (c := cl) hn hj (List.getElem?_eq_some_iff.mp hv).1
  exact own_via (fun t => X.baloadBytes hx (by rw [eT]; exact A.1) (State.isArrayOf_alike hZ.alike A.2.1) A.2.2 hin hv' (g := mkF m pc Ls (.int j :: .ref a :: st)) rfl rfl hd t) K
theorem own_zaload (X : Stand p l e R s m args below meth c T locs cells slots) (hx : p.tables.exec = Jvm.exec) {Z : State} {h : Heap} (hZ : Z.Warmed39 s.vm) {a : Addr} {j : Int32} {i : Nat} {vs : List Value} (eT : T.heap = h) {v : Value} (F : own_A Z h a .boolean vs) (hn : ¬ j < 0) (hj : j.toNatClampNeg = i) (hv : vs[i]? = some v) (hd : decode c.code pc = .ok (.baload, 1)) (hq : pc + 1 = q) (K : own_Go p e below s kc ks Q (T.setTop (mkF m q Ls (v :: st)))) : own_Go p e below s kc ks Q (T.setTop (mkF m pc Ls (.int j :: .ref a :: st))) := by
  subst hq
  obtain ⟨cl, A, rfl⟩ := F
  have hv' : cl.slots[j.toNatClampNeg]? = some v := by rw [hj, ← Array.getElem?_toList]; exact hv
  have hin := own_in (c := cl) hn hj (List.getElem?_eq_some_iff.mp hv).1
  exact own_via (fun t => X.baloadBooleans hx (by rw [eT]; exact A.1) (State.isArrayOf_alike hZ.alike A.2.1) A.2.2 hin hv' (g := mkF m pc Ls (.int j :: .ref a :: st)) rfl rfl hd t) K
theorem own_alen (X : Stand p l e R s m args below meth c T locs cells slots) (hx : p.tables.exec = Jvm.exec) {Z : State} {h : Heap} (hZ : Z.Warmed39 s.vm) {a : Addr} {vs : List Value} {ty : FieldType} {n : Int32} (eT : T.heap = h) (F : own_A Z h a ty vs) (hn : vs.length.toInt32 = n) (hd : decode c.code pc = .ok (.arraylength, 1)) (hq : pc + 1 = q) (K : own_Go p e below s kc ks Q (T.setTop (mkF m q Ls (.int n :: st)))) : own_Go p e below s kc ks Q (T.setTop (mkF m pc Ls (.ref a :: st))) := by
  subst hq
  obtain ⟨cl, A, rfl⟩ := F
  rw [Array.length_toList] at hn
  subst hn
  exact own_via (fun t => X.arraylength hx (by rw [eT]; exact A.1) (State.isArrayOf_alike hZ.alike A.2.1) (g := mkF m pc Ls (.ref a :: st)) rfl rfl hd t) K
theorem own_iastore (X : Stand p l e R s m args below meth c T locs cells slots) (hx : p.tables.exec = Jvm.exec) {Z : State} {h : Heap} (hZ : Z.Warmed39 s.vm) {a : Addr} {j : Int32} {i : Nat} {vs : List Value} (eT : T.heap = h) {x : Int32} (F : own_A Z h a .int vs) (hn : ¬ j < 0) (hj : j.toNatClampNeg = i) (hi : i < vs.length) (hd : decode c.code pc = .ok (.iastore, 1)) (hq : pc + 1 = q) (K : ∀ T' h', Stand p l e R s m args below meth c T' (locs ++ [⟨a, i⟩]) cells slots → T'.heap = h' → Wr h h' a i (.int x) → own_A Z h' a .int (vs.set i (.int x)) → own_Go p e below s kc ks Q (T'.setTop (mkF m q Ls st))) : own_Go p e below s kc ks Q (T.setTop (mkF m pc Ls (.int x :: .int j :: .ref a :: st))) := by
  subst hq hj
  have F' := F
  obtain ⟨cl, A, rfl⟩ := F
  have hin := own_in (c := cl) hn rfl hi
  obtain ⟨T', h', X', e', W', st'⟩ := stI X hx hZ eT A hin (g := mkF m pc Ls (.int x :: .int j :: .ref a :: st)) rfl rfl hd
  exact own_via (fun t => st' t) (K T' h' X' e' W' (F'.set W'))
theorem own_lastore (X : Stand p l e R s m args below meth c T locs cells slots) (hx : p.tables.exec = Jvm.exec) {Z : State} {h : Heap} (hZ : Z.Warmed39 s.vm) {a : Addr} {j : Int32} {i : Nat} {vs : List Value} (eT : T.heap = h) {x : Int64} (F : own_A Z h a .long vs) (hn : ¬ j < 0) (hj : j.toNatClampNeg = i) (hi : i < vs.length) (hd : decode c.code pc = .ok (.lastore, 1)) (hq : pc + 1 = q) (K : ∀ T' h', Stand p l e R s m args below meth c T' (locs ++ [⟨a, i⟩]) cells slots → T'.heap = h' → Wr h h' a i (.long x) → own_A Z h' a .long (vs.set i (.long x)) → own_Go p e below s kc ks Q (T'.setTop (mkF m q Ls st))) : own_Go p e below s kc ks Q (T.setTop (mkF m pc Ls (.long x :: .int j :: .ref a :: st))) := by
  subst hq hj
  have F' := F
  obtain ⟨cl, A, rfl⟩ := F
  have hin := own_in (c := cl) hn rfl hi
  obtain ⟨T', h', X', e', W', st'⟩ := stJ X hx hZ eT A hin (g := mkF m pc Ls (.long x :: .int j :: .ref a :: st)) rfl rfl hd
  exact own_via (fun t => st' t) (K T' h' X' e' W' (F'.set W'))
theorem own_castore (X : Stand p l e R s m args below meth c T locs cells slots) (hx : p.tables.exec = Jvm.exec) {Z : State} {h : Heap} (hZ : Z.Warmed39 s.vm) {a : Addr} {j : Int32} {i : Nat} {vs : List Value} (eT : T.heap = h) {x : Int32} (F : own_A Z h a .char vs) (hn : ¬ j < 0) (hj : j.toNatClampNeg = i) (hi : i < vs.length) (hd : decode c.code pc = .ok (.castore, 1)) (hq : pc + 1 = q) (K : ∀ T' h', Stand p l e R s m args below meth c T' (locs ++ [⟨a, i⟩]) cells slots → T'.heap = h' → Wr h h' a i (.int (nar .char x)) → own_A Z h' a .char (vs.set i (.int (nar .char x))) → own_Go p e below s kc ks Q (T'.setTop (mkF m q Ls st))) : own_Go p e below s kc ks Q (T.setTop (mkF m pc Ls (.int x :: .int j :: .ref a :: st))) := by
  subst hq hj
  have F' := F
  obtain ⟨cl, A, rfl⟩ := F
  have hin := own_in (c := cl) hn rfl hi
  obtain ⟨T', h', X', e', W', st'⟩ := stC X hx hZ eT A hin (g := mkF m pc Ls (.int x :: .int j :: .ref a :: st)) rfl rfl hd
  exact own_via (fun t => st' t) (K T' h' X' e' W' (F'.set W'))
theorem own_bastore (X : Stand p l e R s m args below meth c T locs cells slots) (hx : p.tables.exec = Jvm.exec) {Z : State} {h : Heap} (hZ : Z.Warmed39 s.vm) {a : Addr} {j : Int32} {i : Nat} {vs : List Value} (eT : T.heap = h) {x : Int32} (F : own_A Z h a .byte vs) (hn : ¬ j < 0) (hj : j.toNatClampNeg = i) (hi : i < vs.length) (hd : decode c.code pc = .ok (.bastore, 1)) (hq : pc + 1 = q) (K : ∀ T' h', Stand p l e R s m args below meth c T' (locs ++ [⟨a, i⟩]) cells slots → T'.heap = h' → Wr h h' a i (.int x.toInt8.toInt32) → own_A Z h' a .byte (vs.set i (.int x.toInt8.toInt32)) → own_Go p e below s kc ks Q (T'.setTop (mkF m q Ls st))) : own_Go p e below s kc ks Q (T.setTop (mkF m pc Ls (.int x :: .int j :: .ref a :: st))) := by
  subst hq hj
  have F' := F
  obtain ⟨cl, A, rfl⟩ := F
  have hin := own_in (c := cl) hn rfl hi
  obtain ⟨T', h', X', e', W', st'⟩ := stB X hx hZ eT A hin (g := mkF m pc Ls (.int x :: .int j :: .ref a :: st)) rfl rfl hd
  exact own_via (fun t => st' t) (K T' h' X' e' W' (F'.set W'))
theorem own_zastore (X : Stand p l e R s m args below meth c T locs cells slots) (hx : p.tables.exec = Jvm.exec) {Z : State} {h : Heap} (hZ : Z.Warmed39 s.vm) {a : Addr} {j : Int32} {i : Nat} {vs : List Value} (eT : T.heap = h) {x : Int32} (F : own_A Z h a .boolean vs) (hn : ¬ j < 0) (hj : j.toNatClampNeg = i) (hi : i < vs.length) (hd : decode c.code pc = .ok (.bastore, 1)) (hq : pc + 1 = q) (K : ∀ T' h', Stand p l e R s m args below meth c T' (locs ++ [⟨a, i⟩]) cells slots → T'.heap = h' → Wr h h' a i (.int (nar .boolean x)) → own_A Z h' a .boolean (vs.set i (.int (nar .boolean x))) → own_Go p e below s kc ks Q (T'.setTop (mkF m q Ls st))) : own_Go p e below s kc ks Q (T.setTop (mkF m pc Ls (.int x :: .int j :: .ref a :: st))) := by
  subst hq hj
  have F' := F
  obtain ⟨cl, A, rfl⟩ := F
  have hin := own_in (c := cl) hn rfl hi
  obtain ⟨T', h', X', e', W', st'⟩ := stZ X hx hZ eT A hin (g := mkF m pc Ls (.int x :: .int j :: .ref a :: st)) rfl rfl hd
  exact own_via (fun t => st' t) (K T' h' X' e' W' (F'.set W'))
theorem own_newA (X : Stand p l e R s m args below meth c T locs cells slots) (hx : p.tables.exec = Jvm.exec) {Z : State} {a0 : Array Value} {h : Heap} (hZ : Z.Warmed39 s.vm) {aty : ArrayType} {ty : FieldType} {n : Int32} {k cap : Nat} (hty : newarray.typeOf aty = ty) (w : (Cond.arrayClass ty).before a0 Z = true) (eT : T.heap = h) (hn : ¬ n < 0) (hk : n.toNatClampNeg = k) (hcap : k ≤ cap) (hb8 : cap * 8 ≤ 536870912) (hc : cells + 1 ≤ R.cells) (hl : slots + cap ≤ R.slots) (hd : decode c.code pc = .ok (.newarray aty, 2)) (hq : pc + 2 = q) (K : ∀ T' h' a, Stand p l e R s m args below meth c T' locs (cells + 1) (slots + cap) → T'.heap = h' → a = h.size → Ext h h' → own_A Z h' a ty (List.replicate k (defaultValue ty)) → own_Go p e below s kc ks Q (T'.setTop (mkF m q Ls (.ref a :: st)))) : own_Go p e below s kc ks Q (T.setTop (mkF m pc Ls (.int n :: st))) := by
  subst hq hty hk
  obtain ⟨T', h', cA, X', e', E', A', st'⟩ := newP X hx hZ w eT (g := mkF m pc Ls (.int n :: st)) rfl hd rfl hn hcap hb8 hc hl
  exact own_via (fun t => st' t) (K T' h' _ X' e' rfl E' ⟨_, A', by simp [newA]⟩)
theorem own_lswHit (X : Stand p l e R s m args below meth c T locs cells slots) (hx : p.tables.exec = Jvm.exec) {k : Int32} {dflt : Int} {prs : Array (Int × Int)} {len : Nat} {v : Int32} {b off : Int} (hk : k = v) (hd : decode c.code pc = .ok (.lookupswitch dflt prs, len)) (hs : (prs.toList.zip (prs.toList.drop 1)).all (fun (a, next) => a.1 < next.1) = true) (hf : prs.find? (·.1 == v.toInt) = some (b, off)) (ho : 0 ≤ (pc : Int) + off) (hp : ((pc : Int) + off).toNat = q) (K : own_Go p e below s kc ks Q (T.setTop (mkF m q Ls st))) : own_Go p e below s kc ks Q (T.setTop (mkF m pc Ls (.int k :: st))) := by
  subst hk hp; exact own_via (fun t => X.lookupswitchHit hx (g := mkF m pc Ls (.int k :: st)) rfl rfl hd hs hf ho t) K
theorem own_lswMiss (X : Stand p l e R s m args below meth c T locs cells slots) (hx : p.tables.exec = Jvm.exec) {k : Int32} {dflt : Int} {prs : Array (Int × Int)} {len : Nat} (hm : prs.find? (·.1 == k.toInt) = none) (hd : decode c.code pc = .ok (.lookupswitch dflt prs, len)) (hs : (prs.toList.zip (prs.toList.drop 1)).all (fun (a, next) => a.1 < next.1) = true) (ho : 0 ≤ (pc : Int) + dflt) (hp : ((pc : Int) + dflt).toNat = q) (K : own_Go p e below s kc ks Q (T.setTop (mkF m q Ls st))) : own_Go p e below s kc ks Q (T.setTop (mkF m pc Ls (.int k :: st))) := by
  subst hp; exact own_via (fun t => X.lookupswitchMiss hx (g := mkF m pc Ls (.int k :: st)) rfl rfl hd hs hm ho t) K
theorem own_instY (X : Stand p l e R s m args below meth c T locs cells slots) (hx : p.tables.exec = Jvm.exec) {Z : State} {a0 : Array Value} {h : Heap} (hZ : Z.Warmed39 s.vm) {own : String} {i : Nat} (hown : s.vm.findClass own = some m.cls) {a : Addr} {K0 : String} (w : (Cond.classLink own i K0).before a0 Z = true) (eT : T.heap = h) (F : Ins Z h a K0 true) (hd : decode c.code pc = .ok (.instanceof i, 3)) (hq : pc + 3 = q) (K : ∀ T', Stand p l e R s m args below meth c T' locs cells slots → T'.heap = h → own_Go p e below s kc ks Q (T'.setTop (mkF m q Ls (.int 1 :: st)))) : own_Go p e below s kc ks Q (T.setTop (mkF m pc Ls (.ref a :: st))) := by
  subst hq
  obtain ⟨T', X', e', st'⟩ := instY X hx hZ hown w eT F (g := mkF m pc Ls (.ref a :: st)) rfl rfl hd
  exact own_via (fun t => st' t) (K T' X' e')
theorem own_instN (X : Stand p l e R s m args below meth c T locs cells slots) (hx : p.tables.exec = Jvm.exec) {Z : State} {a0 : Array Value} {h : Heap} (hZ : Z.Warmed39 s.vm) {own : String} {i : Nat} (hown : s.vm.findClass own = some m.cls) {a : Addr} {K0 C : String} (w : (Cond.classLink own i K0).before a0 Z = true) (eT : T.heap = h) (E : Exa Z h a C) (F : ∃ c t, Z.vm.findClass C = some c ∧ Z.vm.findClass K0 = some t ∧ Z.vm.assignable c t = false) (hd : decode c.code pc = .ok (.instanceof i, 3)) (hq : pc + 3 = q) (K : ∀ T', Stand p l e R s m args below meth c T' locs cells slots → T'.heap = h → own_Go p e below s kc ks Q (T'.setTop (mkF m q Ls (.int 0 :: st)))) : own_Go p e below s kc ks Q (T.setTop (mkF m pc Ls (.ref a :: st))) := by
  subst hq
  obtain ⟨T', X', e', st'⟩ := instNo X hx hZ hown w eT E F (g := mkF m pc Ls (.ref a :: st)) rfl rfl hd
  exact own_via (fun t => st' t) (K T' X' e')
theorem own_cast (X : Stand p l e R s m args below meth c T locs cells slots) (hx : p.tables.exec = Jvm.exec) {Z : State} {a0 : Array Value} {h : Heap} (hZ : Z.Warmed39 s.vm) {own : String} {i : Nat} (hown : s.vm.findClass own = some m.cls) {a : Addr} {K0 : String} (w : (Cond.classLink own i K0).before a0 Z = true) (eT : T.heap = h) (F : Ins Z h a K0 true) (hd : decode c.code pc = .ok (.checkcast i, 3)) (hq : pc + 3 = q) (K : ∀ T', Stand p l e R s m args below meth c T' locs cells slots → T'.heap = h → own_Go p e below s kc ks Q (T'.setTop (mkF m q Ls (.ref a :: st)))) : own_Go p e below s kc ks Q (T.setTop (mkF m pc Ls (.ref a :: st))) := by
  subst hq
  obtain ⟨T', X', e', st'⟩ := castY X hx hZ hown w eT F (g := mkF m pc Ls (.ref a :: st)) rfl rfl hd
  exact own_via (fun t => st' t) (K T' X' e')
theorem own_inst0 (X : Stand p l e R s m args below meth c T locs cells slots) (hx : p.tables.exec = Jvm.exec) {i : Nat} (hd : decode c.code pc = .ok (.instanceof i, 3)) (hq : pc + 3 = q) (K : own_Go p e below s kc ks Q (T.setTop (mkF m q Ls (.int 0 :: st)))) : own_Go p e below s kc ks Q (T.setTop (mkF m pc Ls (.null :: st))) := by
  subst hq; exact own_via (fun t => X.instanceofNull hx (g := mkF m pc Ls (.null :: st)) rfl (rest := st) rfl hd t) K
theorem own_staKeep {Z : State} {h h' : Heap} {ws : List Addr} {C n d : String} {v : Value} (F : Sta Z h C n d v) (K : Keep h h' ws) (q : ∀ a ∈ ws, ∀ c : Cell, h[a]? = some c → c.vm.isStatics = false) : Sta Z h' C n d v := by
  obtain ⟨cf, i, k, f, st, cell, h1, h2, h3, h4, h5, h6, h7⟩ := F
  exact ⟨cf, i, k, f, st, cell, h1, h2, h3, h4, K.2.1 st cell h5 (fun hm => by rw [q st hm cell h5] at h6; cases h6), h6, h7⟩
theorem own_exaPlain {Z : State} {h : Heap} {a : Addr} {C : String} (E : Exa Z h a C) : ∀ c : Cell, h[a]? = some c → c.vm.isStatics = false := fun c hc => by
  obtain ⟨cell, k, h1, -, -, h4, -⟩ := E
  cases h1.symm.trans hc; exact h4
theorem own_A.plain {Z : State} {h : Heap} {a : Addr} {ty : FieldType} {vs : List Value} (F : own_A Z h a ty vs) : ∀ c : Cell, h[a]? = some c → c.vm.isStatics = false := fun c hc => by
  obtain ⟨cl, A, -⟩ := F
  cases A.1.symm.trans hc; exact A.plain
theorem own_callSP (X : Stand p l e R s m args below meth c T locs cells slots) (hx : p.tables.exec = Jvm.exec) {Z : State} {a0 : Array Value} {h : Heap} {own : String} {index : Nat} {y : MethodName} {bytes : ByteArray} {maxL : Nat} {ret : Option FieldType} {W : Nat} {argsL : List Value} {fr lo : Nat} {w : Value} {ps : List FieldType} {r : Option FieldType} {st0 : List Value} (hZ : Z.Warmed39 s.vm) (hown : s.vm.findClass own = some m.cls) (w1 : (Cond.methodLink own index y).before a0 Z = true) (w2 : (Cond.static y).before a0 Z = true) (w3 : (Cond.initialized y.cls).before a0 Z = true) (w4 : (Cond.code y bytes maxL ret).before a0 Z = true) (hy : y.cls ≠ "java/lang/invoke/MethodHandle" ∧ y.cls ≠ "java/lang/invoke/VarHandle") (hM : MetFree l y (head1 [Cond.code y bytes maxL ret] ({ frames := fr, cells := 0, slots := 0, locals := lo } : Room)) (fun aa U => aa = argsL.toArray ∧ Z.Warmed39 U.vm ∧ U.heap = h) (fun _ _ _ _ _ => True) (fun _ U o U' => ∃ v L, o = .returned v ∧ own_P w h v U'.heap L ∧ FrameEnd U o U' L 0 0)) (hpd : parseMethodDescriptor y.desc = some ⟨ps, r⟩) (hlen : argsL.length = ps.length) (eT : T.heap = h) (hml : Ls.size = c.maxLocals) (hst : st0 = argsL.reverse ++ st) (hW : (st.map fun v => v.category).sum ≤ W) (hf : fr + 1 ≤ R.frames) (hl : W + (maxL + 11) + lo ≤ R.locals) (hc : cells ≤ R.cells) (hs : slots ≤ R.slots) (hd : decode c.code pc = .ok (.invokestatic index, 3)) (hq : pc + 3 = q) (K : ∀ T', Stand p l e R s m args below meth c T' locs cells slots → T'.heap = h → own_Go p e below s kc ks Q (T'.setTop (mkF m q Ls (w :: st)))) : own_Go p e below s kc ks Q (T.setTop (mkF m pc Ls st0)) := by
  refine own_callS X hx hZ hown w1 w2 w3 w4 hy hM hpd hlen eT hml hst hW hf hl hc hs hd hq fun v T' L X' hQ => ?_
  obtain ⟨rfl, eh, rfl⟩ := hQ
  rw [List.append_nil] at X'
  exact K T' X' eh
theorem own_callVP (X : Stand p l e R s m args below meth c T locs cells slots) (hx : p.tables.exec = Jvm.exec) {a : Addr} {C : String} {z : MethodName} {Z : State} {a0 : Array Value} {h : Heap} {own : String} {index : Nat} {y : MethodName} {bytes : ByteArray} {maxL : Nat} {ret : Option FieldType} {W : Nat} {argsL : List Value} {fr lo : Nat} {w : Value} {ps : List FieldType} {r : Option FieldType} {st0 : List Value} (hZ : Z.Warmed39 s.vm) (hown : s.vm.findClass own = some m.cls) (w1 : (Cond.methodLink own index y).before a0 Z = true) (w2 : (Cond.declares y).before a0 Z = true) (w5 : (Cond.selects y.cls y y).before a0 Z = true) (w6 : (Cond.selects C y z).before a0 Z = true) (w7 : (Cond.instanceMethod z).before a0 Z = true) (w3 : (Cond.initialized z.cls).before a0 Z = true) (w4 : (Cond.code z bytes maxL ret).before a0 Z = true) (E : Exa Z h a C) (hy : y.cls ≠ "java/lang/invoke/MethodHandle" ∧ y.cls ≠ "java/lang/invoke/VarHandle") (hM : MetFree l z (head1 [Cond.code z bytes maxL ret] ({ frames := fr, cells := 0, slots := 0, locals := lo } : Room)) (fun aa U => aa = (.ref a :: argsL).toArray ∧ Z.Warmed39 U.vm ∧ U.heap = h) (fun _ _ _ _ _ => True) (fun _ U o U' => ∃ v L, o = .returned v ∧ own_P w h v U'.heap L ∧ FrameEnd U o U' L 0 0)) (hpd : parseMethodDescriptor y.desc = some ⟨ps, r⟩) (hlen : argsL.length = ps.length) (eT : T.heap = h) (hml : Ls.size = c.maxLocals) (hst : st0 = argsL.reverse ++ .ref a :: st) (hW : (st.map fun v => v.category).sum ≤ W) (hf : fr + 1 ≤ R.frames) (hl : W + (maxL + 11) + lo ≤ R.locals) (hc : cells ≤ R.cells) (hs : slots ≤ R.slots) (hd : decode c.code pc = .ok (.invokevirtual index, 3)) (hq : pc + 3 = q) (K : ∀ T', Stand p l e R s m args below meth c T' locs cells slots → T'.heap = h → own_Go p e below s kc ks Q (T'.setTop (mkF m q Ls (w :: st)))) : own_Go p e below s kc ks Q (T.setTop (mkF m pc Ls st0)) := by
  refine own_callV X hx hZ hown w1 w2 w5 w6 w7 w3 w4 E hy hM hpd hlen eT hml hst hW hf hl hc hs hd hq fun v T' L X' hQ => ?_
  obtain ⟨rfl, eh, rfl⟩ := hQ
  rw [List.append_nil] at X'
  exact K T' X' eh
theorem own_callCV (X : Stand p l e R s m args below meth c T locs cells slots) (hx : p.tables.exec = Jvm.exec) {a : Addr} {Z : State} {a0 : Array Value} {h : Heap} {own : String} {index : Nat} {y : MethodName} {bytes : ByteArray} {maxL : Nat} {W : Nat} {argsL : List Value} {fr lo : Nat} {ps : List FieldType} {r : Option FieldType} {st0 : List Value} (hZ : Z.Warmed39 s.vm) (hown : s.vm.findClass own = some m.cls) (hy1 : y.name = "<init>") (w1 : (Cond.methodLink own index y).before a0 Z = true) (w2 : (Cond.instanceMethod y).before a0 Z = true) (w3 : (Cond.initialized y.cls).before a0 Z = true) (w4 : (Cond.code y bytes maxL none).before a0 Z = true) (hy : y.cls ≠ "java/lang/invoke/MethodHandle" ∧ y.cls ≠ "java/lang/invoke/VarHandle") (hM : MetFree l y (head1 [Cond.code y bytes maxL none] ({ frames := fr, cells := 0, slots := 0, locals := lo } : Room)) (fun aa U => aa = (.ref a :: argsL).toArray ∧ Z.Warmed39 U.vm ∧ U.heap = h) (fun _ _ _ _ _ => True) (fun _ U o U' => ∃ v L, o = .returned v ∧ own_V h v U'.heap L ∧ FrameEnd U o U' L 0 0)) (hpd : parseMethodDescriptor y.desc = some ⟨ps, r⟩) (hlen : argsL.length = ps.length) (eT : T.heap = h) (hml : Ls.size = c.maxLocals) (hst : st0 = argsL.reverse ++ .ref a :: st) (hW : (st.map fun v => v.category).sum ≤ W) (hf : fr + 1 ≤ R.frames) (hl : W + (maxL + 11) + lo ≤ R.locals) (hc : cells ≤ R.cells) (hs : slots ≤ R.slots) (hd : decode c.code pc = .ok (.invokespecial index, 3)) (hq : pc + 3 = q) (K : ∀ T', Stand p l e R s m args below meth c T' locs cells slots → T'.heap = h → own_Go p e below s kc ks Q (T'.setTop (mkF m q Ls st))) : own_Go p e below s kc ks Q (T.setTop (mkF m pc Ls st0)) := by
  refine own_callC X hx hZ hown hy1 w1 w2 w3 w4 hy hM hpd hlen eT hml hst hW hf hl hc hs hd hq fun v T' L X' hQ => ?_
  obtain ⟨rfl, eh, rfl⟩ := hQ
  rw [List.append_nil] at X'
  exact K T' X' eh
theorem own_callSV (X : Stand p l e R s m args below meth c T locs cells slots) (hx : p.tables.exec = Jvm.exec) {Z : State} {a0 : Array Value} {h : Heap} {own : String} {index : Nat} {y : MethodName} {bytes : ByteArray} {maxL : Nat} {ret : Option FieldType} {W : Nat} {argsL : List Value} {fr lo : Nat} {ps : List FieldType} {r : Option FieldType} {st0 : List Value} (hZ : Z.Warmed39 s.vm) (hown : s.vm.findClass own = some m.cls) (w1 : (Cond.methodLink own index y).before a0 Z = true) (w2 : (Cond.static y).before a0 Z = true) (w3 : (Cond.initialized y.cls).before a0 Z = true) (w4 : (Cond.code y bytes maxL ret).before a0 Z = true) (hy : y.cls ≠ "java/lang/invoke/MethodHandle" ∧ y.cls ≠ "java/lang/invoke/VarHandle") (hM : MetFree l y (head1 [Cond.code y bytes maxL ret] ({ frames := fr, cells := 0, slots := 0, locals := lo } : Room)) (fun aa U => aa = argsL.toArray ∧ Z.Warmed39 U.vm ∧ U.heap = h) (fun _ _ _ _ _ => True) (fun _ U o U' => ∃ v L, o = .returned v ∧ own_V h v U'.heap L ∧ FrameEnd U o U' L 0 0)) (hpd : parseMethodDescriptor y.desc = some ⟨ps, r⟩) (hlen : argsL.length = ps.length) (eT : T.heap = h) (hml : Ls.size = c.maxLocals) (hst : st0 = argsL.reverse ++ st) (hW : (st.map fun v => v.category).sum ≤ W) (hf : fr + 1 ≤ R.frames) (hl : W + (maxL + 11) + lo ≤ R.locals) (hc : cells ≤ R.cells) (hs : slots ≤ R.slots) (hd : decode c.code pc = .ok (.invokestatic index, 3)) (hq : pc + 3 = q) (K : ∀ T', Stand p l e R s m args below meth c T' locs cells slots → T'.heap = h → own_Go p e below s kc ks Q (T'.setTop (mkF m q Ls st))) : own_Go p e below s kc ks Q (T.setTop (mkF m pc Ls st0)) := by
  refine own_callS X hx hZ hown w1 w2 w3 w4 hy hM hpd hlen eT hml hst hW hf hl hc hs hd hq fun v T' L X' hQ => ?_
  obtain ⟨rfl, eh, rfl⟩ := hQ
  rw [List.append_nil] at X'
  exact K T' X' eh
theorem own_callVV (X : Stand p l e R s m args below meth c T locs cells slots) (hx : p.tables.exec = Jvm.exec) {a : Addr} {C : String} {z : MethodName} {Z : State} {a0 : Array Value} {h : Heap} {own : String} {index : Nat} {y : MethodName} {bytes : ByteArray} {maxL : Nat} {ret : Option FieldType} {W : Nat} {argsL : List Value} {fr lo : Nat} {ps : List FieldType} {r : Option FieldType} {st0 : List Value} (hZ : Z.Warmed39 s.vm) (hown : s.vm.findClass own = some m.cls) (w1 : (Cond.methodLink own index y).before a0 Z = true) (w2 : (Cond.declares y).before a0 Z = true) (w5 : (Cond.selects y.cls y y).before a0 Z = true) (w6 : (Cond.selects C y z).before a0 Z = true) (w7 : (Cond.instanceMethod z).before a0 Z = true) (w3 : (Cond.initialized z.cls).before a0 Z = true) (w4 : (Cond.code z bytes maxL ret).before a0 Z = true) (E : Exa Z h a C) (hy : y.cls ≠ "java/lang/invoke/MethodHandle" ∧ y.cls ≠ "java/lang/invoke/VarHandle") (hM : MetFree l z (head1 [Cond.code z bytes maxL ret] ({ frames := fr, cells := 0, slots := 0, locals := lo } : Room)) (fun aa U => aa = (.ref a :: argsL).toArray ∧ Z.Warmed39 U.vm ∧ U.heap = h) (fun _ _ _ _ _ => True) (fun _ U o U' => ∃ v L, o = .returned v ∧ own_V h v U'.heap L ∧ FrameEnd U o U' L 0 0)) (hpd : parseMethodDescriptor y.desc = some ⟨ps, r⟩) (hlen : argsL.length = ps.length) (eT : T.heap = h) (hml : Ls.size = c.maxLocals) (hst : st0 = argsL.reverse ++ .ref a :: st) (hW : (st.map fun v => v.category).sum ≤ W) (hf : fr + 1 ≤ R.frames) (hl : W + (maxL + 11) + lo ≤ R.locals) (hc : cells ≤ R.cells) (hs : slots ≤ R.slots) (hd : decode c.code pc = .ok (.invokevirtual index, 3)) (hq : pc + 3 = q) (K : ∀ T', Stand p l e R s m args below meth c T' locs cells slots → T'.heap = h → own_Go p e below s kc ks Q (T'.setTop (mkF m q Ls st))) : own_Go p e below s kc ks Q (T.setTop (mkF m pc Ls st0)) := by
  refine own_callV X hx hZ hown w1 w2 w5 w6 w7 w3 w4 E hy hM hpd hlen eT hml hst hW hf hl hc hs hd hq fun v T' L X' hQ => ?_
  obtain ⟨rfl, eh, rfl⟩ := hQ
  rw [List.append_nil] at X'
  exact K T' X' eh
end OwnKit
def own_tab (j : Int32) : Int32 := if j < 45 then 0 else if j = 45 then 1 else if j < 48 then 0 else if j < 58 then 1 else if j < 65 then 0 else if j < 91 then 1 else if j < 97 then 0 else if j < 123 then 1 else 0
theorem own_c0 (x : Int32) : ¬ x.toUInt32.toUInt16.toUInt32.toInt32 < 0 := by
  have := c_i2c x
  rw [Int32.lt_iff_toInt_lt]; simp only [Int32.reduceToInt]; omega
theorem own_len {args : Array Value} {s : State} {t : Term} {a : Addr} {cl : Cell} {v : Value} (ht : t.eval args s none [] s = some (.ref a)) (ha : s.arrayAt? a = some cl) (h : (Term.length t).eval args s none [] s = some v) : cl.slots.size < 2 ^ 31 := by
  by_cases hs : cl.slots.size < 2 ^ 31
  · exact hs
  · exfalso
    have hs' : ¬ cl.slots.size < 2147483648 := hs
    simp [Term.eval, ht, ha, hs'] at h
theorem own_or {args : Array Value} {s : State} {idx : List Nat} {G Y : Jvm.Cond} {b : Bool} (h : (Jvm.Cond.or G Y).value args s none s idx = some true) (hG : G.value args s none s idx = some b) : b = true ∨ Y.value args s none s idx = some true := by
  cases b with
  | true => exact Or.inl rfl
  | false => right; simpa [Cond.value, hG] using h
set_option maxHeartbeats 40000000 in
theorem own_table {s : State} {args : Array Value} (hfit : Fit s) (hn : narrow_1.value args s none s [] = some true) :
    ∃ (a : Addr) (vs : List Value), (Term.static "com/example/hell/hell/VersionSyntax" "IDENTIFIER_CHARACTERS" "[Z").eval args s none [] s = some (.ref a) ∧ own_A s s.heap a .boolean vs ∧ vs.length = 128 ∧ ∀ j : Int32, ¬ j < 0 → j < 128 → vs[j.toNatClampNeg]? = some (.int (own_tab j)) := by
  obtain ⟨na0, nr⟩ := and_e hn
  obtain ⟨na1, nr⟩ := and_e nr
  obtain ⟨na2, nr⟩ := and_e nr
  obtain ⟨na3, nr⟩ := and_e nr
  obtain ⟨na4, nr⟩ := and_e nr
  obtain ⟨na5, nr⟩ := and_e nr
  obtain ⟨na6, nr⟩ := and_e nr
  obtain ⟨na7, nr⟩ := and_e nr
  obtain ⟨na8, nr⟩ := and_e nr
  obtain ⟨na9, nr⟩ := and_e nr
  obtain ⟨na10, na11⟩ := and_e nr
  obtain ⟨a, ev⟩ := arr_v na0
  obtain ⟨cl, A⟩ := Arr.start ev na0
  have evi : ∀ idx, (Term.static "com/example/hell/hell/VersionSyntax" "IDENTIFIER_CHARACTERS" "[Z").eval args s none idx s = some (.ref a) := fun idx => ev
  have ha := A.fin (Vm.Alike.refl _)
  have hlen : cl.slots.size = 128 := by
    obtain ⟨v, w, e1, e2, k1, k2⟩ := cmp_v (Or.inl na1)
    obtain rfl : w = .int 128 := Option.some.inj (e2.symm.trans (Term.int_eval 128))
    by_cases hs : cl.slots.size < 2 ^ 31
    · rw [len_f ev ha hs] at e1
      obtain rfl := Option.some.inj e1
      have h1 : cl.slots.size.toInt32 = 128 := by simpa [Cond.value, len_f ev ha hs, e2] using na1
      have h2 := congrArg Int32.toInt h1
      rw [len_toInt hs] at h2
      simp only [Int32.reduceToInt] at h2; omega
    · exact absurd (own_len ev ha e1) hs
  refine ⟨a, cl.slots.toList, ev, ⟨cl, A, rfl⟩, by rw [Array.length_toList, hlen], fun j h0 h1 => ?_⟩
  rw [Array.getElem?_toList]
  have hj : ¬ (j < 0 ∨ cl.slots.size ≤ j.toNatClampNeg) := by
    rw [hlen]; simp only [Int32.lt_iff_toInt_lt, Int32.toNatClampNeg, Int32.reduceToInt] at *; omega
  obtain ⟨v, hv, hf⟩ := elem_fit hfit A hj
  obtain ⟨x, rfl⟩ := fit_I hf (by simp)
  rw [hv]
  have hi : j.toNatClampNeg < cl.slots.size := Nat.lt_of_not_le fun q => hj (Or.inr q)
  have ix : (Term.index 0).eval args s none [j.toNatClampNeg] s = some (.int j) := idx_at h0
  have el : (Term.elem (Term.static "com/example/hell/hell/VersionSyntax" "IDENTIFIER_CHARACTERS" "[Z") (Term.index 0)).eval args s none [j.toNatClampNeg] s = some (.int x) := by rw [elem_f (evi _) ix ha h0, hv]
  have elc : ∀ k : Int32, j = k → (Term.elem (Term.static "com/example/hell/hell/VersionSyntax" "IDENTIFIER_CHARACTERS" "[Z") (Term.int k)).eval args s none [] s = some (.int x) := fun k hk => by
    subst hk; rw [elem_f ev (Term.int_eval j) ha h0, hv]
  have eq1 : ∀ b : Int32, (Jvm.Cond.eq (Term.elem (Term.static "com/example/hell/hell/VersionSyntax" "IDENTIFIER_CHARACTERS" "[Z") (Term.index 0)) (Term.int b)).value args s none s [j.toNatClampNeg] = some true → x = b := fun b h => by
    simpa [Cond.value, el, Term.int_eval] using h
  have eqc : ∀ k b : Int32, j = k → (Jvm.Cond.eq (Term.elem (Term.static "com/example/hell/hell/VersionSyntax" "IDENTIFIER_CHARACTERS" "[Z") (Term.int k)) (Term.int b)).value args s none s [] = some true → x = b := fun k b hk h => by
    simpa [Cond.value, elc k hk, Term.int_eval] using h
  have lt1 : ∀ b : Int32, (Jvm.Cond.lt (Term.index 0) (Term.int b)).value args s none s [j.toNatClampNeg] = some (decide (j < b)) := fun b => by simp [Cond.value, ix, Term.int_eval]
  have le1 : ∀ b : Int32, (Jvm.Cond.le (Term.int b) (Term.index 0)).value args s none s [j.toNatClampNeg] = some (decide (b ≤ j)) := fun b => by simp [Cond.value, ix, Term.int_eval]
  have m1 : ∀ b v : Int32, (Jvm.Cond.all (Term.static "com/example/hell/hell/VersionSyntax" "IDENTIFIER_CHARACTERS" "[Z") (.or (.le (.int b) (.index 0)) (.eq (.elem (Term.static "com/example/hell/hell/VersionSyntax" "IDENTIFIER_CHARACTERS" "[Z") (.index 0)) (.int v)))).value args s none s [] = some true → j < b → x = v := fun b v h hb => by
    have q := Cond.all_elim ev ha h _ hi
    rcases own_or q (le1 b) with q | q
    · exact absurd (of_decide_eq_true q) (Int32.not_le.mpr hb)
    · exact eq1 v q
  have m2 : ∀ b d v : Int32, (Jvm.Cond.all (Term.static "com/example/hell/hell/VersionSyntax" "IDENTIFIER_CHARACTERS" "[Z") (.or (.lt (.index 0) (.int b)) (.or (.le (.int d) (.index 0)) (.eq (.elem (Term.static "com/example/hell/hell/VersionSyntax" "IDENTIFIER_CHARACTERS" "[Z") (.index 0)) (.int v))))).value args s none s [] = some true → ¬ j < b → j < d → x = v := fun b d v h hb hd => by
    have q := Cond.all_elim ev ha h _ hi
    rcases own_or q (lt1 b) with q | q
    · exact absurd (of_decide_eq_true q) hb
    · rcases own_or q (le1 d) with q | q
      · exact absurd (of_decide_eq_true q) (Int32.not_le.mpr hd)
      · exact eq1 v q
  have m3 : ∀ b v : Int32, (Jvm.Cond.all (Term.static "com/example/hell/hell/VersionSyntax" "IDENTIFIER_CHARACTERS" "[Z") (.or (.lt (.index 0) (.int b)) (.eq (.elem (Term.static "com/example/hell/hell/VersionSyntax" "IDENTIFIER_CHARACTERS" "[Z") (.index 0)) (.int v)))).value args s none s [] = some true → ¬ j < b → x = v := fun b v h hb => by
    have q := Cond.all_elim ev ha h _ hi
    rcases own_or q (lt1 b) with q | q
    · exact absurd (of_decide_eq_true q) hb
    · exact eq1 v q
  have f2 := m1 _ _ na2
  have f3 := fun h => eqc 45 _ h na3
  have f4 := fun h => eqc 46 _ h na4
  have f5 := fun h => eqc 47 _ h na5
  have f6 := m2 _ _ _ na6
  have f7 := m2 _ _ _ na7
  have f8 := m2 _ _ _ na8
  have f9 := m2 _ _ _ na9
  have f10 := m2 _ _ _ na10
  have f11 := m3 _ _ na11
  have goal : x = own_tab j := by
    unfold own_tab
    repeat' split
    · exact f2 (by assumption)
    · exact f3 (by assumption)
    · rename_i h1 h2 h3
      have : j = 46 ∨ j = 47 := by simp only [Int32.lt_iff_toInt_lt, ← Int32.toInt_inj, Int32.reduceToInt] at *; omega
      rcases this with h | h
      · exact f4 h
      · exact f5 h
    · exact f6 (by assumption) (by assumption)
    · exact f7 (by assumption) (by assumption)
    · exact f8 (by assumption) (by assumption)
    · exact f9 (by assumption) (by assumption)
    · exact f10 (by assumption) (by assumption)
    · exact f11 (by assumption)
  rw [goal]
theorem own_pn0 : plainName "com/example/hell/hell/VersionSyntax" = true := by first | (simp [plainName, overriddenIn]; done) | decide +kernel
theorem own_ef1 (m : MethodId) (p1 : Int32) : entryFrame m #[.int p1] 1 = mkF m 0 #[.val (.int p1)] [] := by first | (simp [entryFrame, mkF, argsToLocals, Value.category]; done) | rfl
theorem own_d1_0 : decode prog_25_method_25_code 0 = .ok (.iload_n 0, 1) := by decide +kernel
theorem own_d1_1 : decode prog_25_method_25_code 1 = .ok (.getstatic 128, 3) := by decide +kernel
theorem own_d1_4 : decode prog_25_method_25_code 4 = .ok (.arraylength, 1) := by decide +kernel
theorem own_d1_5 : decode prog_25_method_25_code 5 = .ok (.if_icmp .ge 15, 3) := by decide +kernel
theorem own_d1_8 : decode prog_25_method_25_code 8 = .ok (.getstatic 128, 3) := by decide +kernel
theorem own_d1_11 : decode prog_25_method_25_code 11 = .ok (.iload_n 0, 1) := by decide +kernel
theorem own_d1_12 : decode prog_25_method_25_code 12 = .ok (.baload, 1) := by decide +kernel
theorem own_d1_13 : decode prog_25_method_25_code 13 = .ok (.ifCond .eq 7, 3) := by decide +kernel
theorem own_d1_16 : decode prog_25_method_25_code 16 = .ok (.iconst 1, 1) := by decide +kernel
theorem own_d1_17 : decode prog_25_method_25_code 17 = .ok (.goto 4, 3) := by decide +kernel
theorem own_d1_20 : decode prog_25_method_25_code 20 = .ok (.iconst 0, 1) := by decide +kernel
theorem own_d1_21 : decode prog_25_method_25_code 21 = .ok (.ireturn, 1) := by decide +kernel
def own_f1 (p1 : Int32) (k0 : Addr) (vs : List Value) : Int32 := (if p1 < (128 : Int32) then (if (own_tab p1) = (0 : Int32) then (0 : Int32) else (1 : Int32)) else (0 : Int32))
set_option maxRecDepth 65536 in
set_option maxHeartbeats 40000000 in
theorem rm1 (l : Launch) (Z : State) (a0 : Array Value) (hw : ∀ d ∈ tables_1, d.before a0 Z = true) (ws : List Jvm.Cond) (p1 : Int32) (k0 : Addr) (vs : List Value) (h0 : Heap) (S0p : Sta Z h0 "com/example/hell/hell/VersionSyntax" "IDENTIFIER_CHARACTERS" "[Z" (.ref k0)) (V1p : own_A Z h0 k0 .boolean vs) (VL : vs.length = 128) (VV : ∀ j : Int32, ¬ j < 0 → j < 128 → vs[j.toNatClampNeg]? = some (.int (own_tab j))) (P0 : ¬ p1 < 0) :
    MetFree l (⟨"com/example/hell/hell/VersionSyntax", "isIdentifierCharacter", "(C)Z"⟩ : MethodName) (head1 (Jvm.Cond.code (⟨"com/example/hell/hell/VersionSyntax", "isIdentifierCharacter", "(C)Z"⟩ : MethodName) prog_25_method_25_code 1 (some .boolean) :: ws) ({ frames := 0, cells := 0, slots := 0, locals := 0 } : Room)) (fun a U => a = #[.int p1] ∧ Z.Warmed39 U.vm ∧ U.heap = h0) (fun _ _ _ _ _ => True) (fun _ U o U' => ∃ v L, o = .returned v ∧ own_P (.int (own_f1 p1 k0 vs)) h0 v U'.heap L ∧ FrameEnd U o U' L ({ frames := 0, cells := 0, slots := 0, locals := 0 } : Room).cells ({ frames := 0, cells := 0, slots := 0, locals := 0 } : Room).slots) := by
  refine MetFree.of_bodySF (plainFor_of_name own_pn0) hisR ?_
  intro p e s m args below meth c s₁ Bd hml0 hP hK
  obtain ⟨rfl, hZ, hh⟩ := hP
  have hx := Bd.exec
  have hby := Bd.bytes
  have hml : c.maxLocals = 1 := hml0
  have hown : s.vm.findClass "com/example/hell/hell/VersionSyntax" = some m.cls := findClass_of_methodNamed Bd.named
  have hnm := (name_of_methodNamed Bd.named Bd.method).1
  have hlk : meth.locks = false := BodyLoose.notSynchronized Bd
  have X0 : Stand p l e ({ frames := 0, cells := 0, slots := 0, locals := 0 } : Room) s m #[.int p1] below meth c s₁ [] 0 0 := Stand.of_body Bd
  have e0 : s₁.heap = h0 := by rw [← hh, Bd.state]; rfl
  show own_Go p e below s 0 0 (own_P (.int (own_f1 p1 k0 vs)) h0) (s₁.setTop (entryFrame m #[.int p1] 1))
  rw [own_ef1]
  refine own_iloadN X0 hx (hb hby own_d1_0) (q := 1) rfl rfl ?_
  refine own_getS X0 hx hZ hown (hw _ (List.mem_of_getElem? (i := 4) rfl)) Via.refl e0 S0p (hb hby own_d1_1) (q := 4) rfl (fun T1 X2 e3 => ?_)
  refine own_alen X2 hx hZ (n := (128 : Int32)) e3 V1p (by rw [VL]; rfl) (hb hby own_d1_4) (q := 5) rfl ?_
  refine own_icmpM X2 hx (hb hby own_d1_5) (cd := .ge) (x := p1) (y := (128 : Int32)) (pt := 20) (q := 8) (by decide) (by decide) rfl rfl (fun (c1 : ¬ (p1 < (128 : Int32))) => ?_) (fun (c1 : p1 < (128 : Int32)) => ?_)
  · refine own_iconst X2 hx (v := (0 : Int32)) (hb hby own_d1_20) (q := 21) rfl rfl ?_
    refine own_retN X2 hx hlk (t := .boolean) (by simp) Bd.returns (hb hby own_d1_21) ?_ (by decide) (by decide)
    have r : own_f1 p1 k0 vs = (0 : Int32) := by rw [own_f1, if_neg c1]
    exact ⟨by rw [r] <;> rfl, e3, rfl⟩
  · refine own_getS X2 hx hZ hown (hw _ (List.mem_of_getElem? (i := 4) rfl)) Via.refl e3 S0p (hb hby own_d1_8) (q := 11) rfl (fun T4 X5 e6 => ?_)
    refine own_iloadN X5 hx (hb hby own_d1_11) (q := 12) rfl rfl ?_
    refine own_zaload X5 hx hZ (i := (p1).toNatClampNeg) (v := .int (own_tab p1)) e6 V1p P0 rfl (VV _ P0 c1) (hb hby own_d1_12) (q := 13) rfl ?_
    refine own_if0P X5 hx (hb hby own_d1_13) (cd := .eq) (x := own_tab p1) (pt := 20) (q := 16) (by decide) (by decide) rfl rfl (fun (c2 : (own_tab p1) = (0 : Int32)) => ?_) (fun (c2 : ¬ ((own_tab p1) = (0 : Int32))) => ?_)
    · refine own_iconst X5 hx (v := (0 : Int32)) (hb hby own_d1_20) (q := 21) rfl rfl ?_
      refine own_retN X5 hx hlk (t := .boolean) (by simp) Bd.returns (hb hby own_d1_21) ?_ (by decide) (by decide)
      have r : own_f1 p1 k0 vs = (0 : Int32) := by rw [own_f1, if_pos c1, if_pos c2]
      exact ⟨by rw [r] <;> rfl, e6, rfl⟩
    · refine own_iconst X5 hx (v := (1 : Int32)) (hb hby own_d1_16) (q := 17) rfl rfl ?_
      refine own_goto X5 hx (hb hby own_d1_17) (q := 21) (by decide) (by decide) ?_
      refine own_retN X5 hx hlk (t := .boolean) (by simp) Bd.returns (hb hby own_d1_21) ?_ (by decide) (by decide)
      have r : own_f1 p1 k0 vs = (1 : Int32) := by rw [own_f1, if_pos c1, if_neg c2]
      exact ⟨by rw [r] <;> rfl, e6, rfl⟩
theorem own_pn2 : plainName "com/example/hell/hell/VersionSyntaxIsIdentifierCharacterPinLaw" = true := by first | (simp [plainName, overriddenIn]; done) | decide +kernel
theorem own_ef2 (m : MethodId) (p1 : Int32) : entryFrame m #[.int p1] 1 = mkF m 0 #[.val (.int p1)] [] := by first | (simp [entryFrame, mkF, argsToLocals, Value.category]; done) | rfl
theorem own_d2_0 : decode method_2_code 0 = .ok (.iload_n 0, 1) := by decide +kernel
theorem own_d2_1 : decode method_2_code 1 = .ok (.bipush 48, 2) := by decide +kernel
theorem own_d2_3 : decode method_2_code 3 = .ok (.if_icmp .lt 11, 3) := by decide +kernel
theorem own_d2_6 : decode method_2_code 6 = .ok (.iload_n 0, 1) := by decide +kernel
theorem own_d2_7 : decode method_2_code 7 = .ok (.bipush 57, 2) := by decide +kernel
theorem own_d2_9 : decode method_2_code 9 = .ok (.if_icmp .gt 5, 3) := by decide +kernel
theorem own_d2_12 : decode method_2_code 12 = .ok (.iconst 1, 1) := by decide +kernel
theorem own_d2_13 : decode method_2_code 13 = .ok (.ireturn, 1) := by decide +kernel
theorem own_d2_14 : decode method_2_code 14 = .ok (.iload_n 0, 1) := by decide +kernel
theorem own_d2_15 : decode method_2_code 15 = .ok (.bipush 65, 2) := by decide +kernel
theorem own_d2_17 : decode method_2_code 17 = .ok (.if_icmp .lt 11, 3) := by decide +kernel
theorem own_d2_20 : decode method_2_code 20 = .ok (.iload_n 0, 1) := by decide +kernel
theorem own_d2_21 : decode method_2_code 21 = .ok (.bipush 90, 2) := by decide +kernel
theorem own_d2_23 : decode method_2_code 23 = .ok (.if_icmp .gt 5, 3) := by decide +kernel
theorem own_d2_26 : decode method_2_code 26 = .ok (.iconst 1, 1) := by decide +kernel
theorem own_d2_27 : decode method_2_code 27 = .ok (.ireturn, 1) := by decide +kernel
theorem own_d2_28 : decode method_2_code 28 = .ok (.iload_n 0, 1) := by decide +kernel
theorem own_d2_29 : decode method_2_code 29 = .ok (.bipush 97, 2) := by decide +kernel
theorem own_d2_31 : decode method_2_code 31 = .ok (.if_icmp .lt 11, 3) := by decide +kernel
theorem own_d2_34 : decode method_2_code 34 = .ok (.iload_n 0, 1) := by decide +kernel
theorem own_d2_35 : decode method_2_code 35 = .ok (.bipush 122, 2) := by decide +kernel
theorem own_d2_37 : decode method_2_code 37 = .ok (.if_icmp .gt 5, 3) := by decide +kernel
theorem own_d2_40 : decode method_2_code 40 = .ok (.iconst 1, 1) := by decide +kernel
theorem own_d2_41 : decode method_2_code 41 = .ok (.ireturn, 1) := by decide +kernel
theorem own_d2_42 : decode method_2_code 42 = .ok (.iload_n 0, 1) := by decide +kernel
theorem own_d2_43 : decode method_2_code 43 = .ok (.bipush 45, 2) := by decide +kernel
theorem own_d2_45 : decode method_2_code 45 = .ok (.if_icmp .ne 7, 3) := by decide +kernel
theorem own_d2_48 : decode method_2_code 48 = .ok (.iconst 1, 1) := by decide +kernel
theorem own_d2_49 : decode method_2_code 49 = .ok (.goto 4, 3) := by decide +kernel
theorem own_d2_52 : decode method_2_code 52 = .ok (.iconst 0, 1) := by decide +kernel
theorem own_d2_53 : decode method_2_code 53 = .ok (.ireturn, 1) := by decide +kernel
def own_f2 (p1 : Int32) : Int32 := (if p1 < (48 : Int32) then (if p1 < (65 : Int32) then (if p1 < (97 : Int32) then (if p1 = (45 : Int32) then (1 : Int32) else (0 : Int32)) else (if (122 : Int32) < p1 then (if p1 = (45 : Int32) then (1 : Int32) else (0 : Int32)) else (1 : Int32))) else (if (90 : Int32) < p1 then (if p1 < (97 : Int32) then (if p1 = (45 : Int32) then (1 : Int32) else (0 : Int32)) else (if (122 : Int32) < p1 then (if p1 = (45 : Int32) then (1 : Int32) else (0 : Int32)) else (1 : Int32))) else (1 : Int32))) else (if (57 : Int32) < p1 then (if p1 < (65 : Int32) then (if p1 < (97 : Int32) then (if p1 = (45 : Int32) then (1 : Int32) else (0 : Int32)) else (if (122 : Int32) < p1 then (if p1 = (45 : Int32) then (1 : Int32) else (0 : Int32)) else (1 : Int32))) else (if (90 : Int32) < p1 then (if p1 < (97 : Int32) then (if p1 = (45 : Int32) then (1 : Int32) else (0 : Int32)) else (if (122 : Int32) < p1 then (if p1 = (45 : Int32) then (1 : Int32) else (0 : Int32)) else (1 : Int32))) else (1 : Int32))) else (1 : Int32)))
set_option maxRecDepth 65536 in
set_option maxHeartbeats 40000000 in
theorem rm2 (l : Launch) (Z : State) (a0 : Array Value) (hw : ∀ d ∈ tables_1, d.before a0 Z = true) (ws : List Jvm.Cond) (p1 : Int32) (h0 : Heap) :
    MetFree l (⟨"com/example/hell/hell/VersionSyntaxIsIdentifierCharacterPinLaw", "expected", "(C)Z"⟩ : MethodName) (head1 (Jvm.Cond.code (⟨"com/example/hell/hell/VersionSyntaxIsIdentifierCharacterPinLaw", "expected", "(C)Z"⟩ : MethodName) method_2_code 1 (some .boolean) :: ws) ({ frames := 0, cells := 0, slots := 0, locals := 0 } : Room)) (fun a U => a = #[.int p1] ∧ Z.Warmed39 U.vm ∧ U.heap = h0) (fun _ _ _ _ _ => True) (fun _ U o U' => ∃ v L, o = .returned v ∧ own_P (.int (own_f2 p1)) h0 v U'.heap L ∧ FrameEnd U o U' L ({ frames := 0, cells := 0, slots := 0, locals := 0 } : Room).cells ({ frames := 0, cells := 0, slots := 0, locals := 0 } : Room).slots) := by
  refine MetFree.of_bodySF (plainFor_of_name own_pn2) hisR ?_
  intro p e s m args below meth c s₁ Bd hml0 hP hK
  obtain ⟨rfl, hZ, hh⟩ := hP
  have hx := Bd.exec
  have hby := Bd.bytes
  have hml : c.maxLocals = 1 := hml0
  have hown : s.vm.findClass "com/example/hell/hell/VersionSyntaxIsIdentifierCharacterPinLaw" = some m.cls := findClass_of_methodNamed Bd.named
  have hnm := (name_of_methodNamed Bd.named Bd.method).1
  have hlk : meth.locks = false := BodyLoose.notSynchronized Bd
  have X0 : Stand p l e ({ frames := 0, cells := 0, slots := 0, locals := 0 } : Room) s m #[.int p1] below meth c s₁ [] 0 0 := Stand.of_body Bd
  have e0 : s₁.heap = h0 := by rw [← hh, Bd.state]; rfl
  show own_Go p e below s 0 0 (own_P (.int (own_f2 p1)) h0) (s₁.setTop (entryFrame m #[.int p1] 1))
  rw [own_ef2]
  refine own_iloadN X0 hx (hb hby own_d2_0) (q := 1) rfl rfl ?_
  refine own_bipush X0 hx (v := (48 : Int32)) (hb hby own_d2_1) (q := 3) rfl rfl ?_
  refine own_icmpP X0 hx (hb hby own_d2_3) (cd := .lt) (x := p1) (y := (48 : Int32)) (pt := 14) (q := 6) (by decide) (by decide) rfl rfl (fun (c1 : p1 < (48 : Int32)) => ?_) (fun (c1 : ¬ (p1 < (48 : Int32))) => ?_)
  · refine own_iloadN X0 hx (hb hby own_d2_14) (q := 15) rfl rfl ?_
    refine own_bipush X0 hx (v := (65 : Int32)) (hb hby own_d2_15) (q := 17) rfl rfl ?_
    refine own_icmpP X0 hx (hb hby own_d2_17) (cd := .lt) (x := p1) (y := (65 : Int32)) (pt := 28) (q := 20) (by decide) (by decide) rfl rfl (fun (c2 : p1 < (65 : Int32)) => ?_) (fun (c2 : ¬ (p1 < (65 : Int32))) => ?_)
    · refine own_iloadN X0 hx (hb hby own_d2_28) (q := 29) rfl rfl ?_
      refine own_bipush X0 hx (v := (97 : Int32)) (hb hby own_d2_29) (q := 31) rfl rfl ?_
      refine own_icmpP X0 hx (hb hby own_d2_31) (cd := .lt) (x := p1) (y := (97 : Int32)) (pt := 42) (q := 34) (by decide) (by decide) rfl rfl (fun (c3 : p1 < (97 : Int32)) => ?_) (fun (c3 : ¬ (p1 < (97 : Int32))) => ?_)
      · refine own_iloadN X0 hx (hb hby own_d2_42) (q := 43) rfl rfl ?_
        refine own_bipush X0 hx (v := (45 : Int32)) (hb hby own_d2_43) (q := 45) rfl rfl ?_
        refine own_icmpM X0 hx (hb hby own_d2_45) (cd := .ne) (x := p1) (y := (45 : Int32)) (pt := 52) (q := 48) (by decide) (by decide) rfl rfl (fun (c4 : ¬ (p1 = (45 : Int32))) => ?_) (fun (c4 : p1 = (45 : Int32)) => ?_)
        · refine own_iconst X0 hx (v := (0 : Int32)) (hb hby own_d2_52) (q := 53) rfl rfl ?_
          refine own_retN X0 hx hlk (t := .boolean) (by simp) Bd.returns (hb hby own_d2_53) ?_ (by decide) (by decide)
          have r : own_f2 p1 = (0 : Int32) := by rw [own_f2, if_pos c1, if_pos c2, if_pos c3, if_neg c4]
          exact ⟨by rw [r] <;> rfl, e0, rfl⟩
        · refine own_iconst X0 hx (v := (1 : Int32)) (hb hby own_d2_48) (q := 49) rfl rfl ?_
          refine own_goto X0 hx (hb hby own_d2_49) (q := 53) (by decide) (by decide) ?_
          refine own_retN X0 hx hlk (t := .boolean) (by simp) Bd.returns (hb hby own_d2_53) ?_ (by decide) (by decide)
          have r : own_f2 p1 = (1 : Int32) := by rw [own_f2, if_pos c1, if_pos c2, if_pos c3, if_pos c4]
          exact ⟨by rw [r] <;> rfl, e0, rfl⟩
      · refine own_iloadN X0 hx (hb hby own_d2_34) (q := 35) rfl rfl ?_
        refine own_bipush X0 hx (v := (122 : Int32)) (hb hby own_d2_35) (q := 37) rfl rfl ?_
        refine own_icmpP X0 hx (hb hby own_d2_37) (cd := .gt) (x := p1) (y := (122 : Int32)) (pt := 42) (q := 40) (by decide) (by decide) rfl rfl (fun (c5 : (122 : Int32) < p1) => ?_) (fun (c5 : ¬ ((122 : Int32) < p1)) => ?_)
        · refine own_iloadN X0 hx (hb hby own_d2_42) (q := 43) rfl rfl ?_
          refine own_bipush X0 hx (v := (45 : Int32)) (hb hby own_d2_43) (q := 45) rfl rfl ?_
          refine own_icmpM X0 hx (hb hby own_d2_45) (cd := .ne) (x := p1) (y := (45 : Int32)) (pt := 52) (q := 48) (by decide) (by decide) rfl rfl (fun (c6 : ¬ (p1 = (45 : Int32))) => ?_) (fun (c6 : p1 = (45 : Int32)) => ?_)
          · refine own_iconst X0 hx (v := (0 : Int32)) (hb hby own_d2_52) (q := 53) rfl rfl ?_
            refine own_retN X0 hx hlk (t := .boolean) (by simp) Bd.returns (hb hby own_d2_53) ?_ (by decide) (by decide)
            have r : own_f2 p1 = (0 : Int32) := by rw [own_f2, if_pos c1, if_pos c2, if_neg c3, if_pos c5, if_neg c6]
            exact ⟨by rw [r] <;> rfl, e0, rfl⟩
          · refine own_iconst X0 hx (v := (1 : Int32)) (hb hby own_d2_48) (q := 49) rfl rfl ?_
            refine own_goto X0 hx (hb hby own_d2_49) (q := 53) (by decide) (by decide) ?_
            refine own_retN X0 hx hlk (t := .boolean) (by simp) Bd.returns (hb hby own_d2_53) ?_ (by decide) (by decide)
            have r : own_f2 p1 = (1 : Int32) := by rw [own_f2, if_pos c1, if_pos c2, if_neg c3, if_pos c5, if_pos c6]
            exact ⟨by rw [r] <;> rfl, e0, rfl⟩
        · refine own_iconst X0 hx (v := (1 : Int32)) (hb hby own_d2_40) (q := 41) rfl rfl ?_
          refine own_retN X0 hx hlk (t := .boolean) (by simp) Bd.returns (hb hby own_d2_41) ?_ (by decide) (by decide)
          have r : own_f2 p1 = (1 : Int32) := by rw [own_f2, if_pos c1, if_pos c2, if_neg c3, if_neg c5]
          exact ⟨by rw [r] <;> rfl, e0, rfl⟩
    · refine own_iloadN X0 hx (hb hby own_d2_20) (q := 21) rfl rfl ?_
      refine own_bipush X0 hx (v := (90 : Int32)) (hb hby own_d2_21) (q := 23) rfl rfl ?_
      refine own_icmpP X0 hx (hb hby own_d2_23) (cd := .gt) (x := p1) (y := (90 : Int32)) (pt := 28) (q := 26) (by decide) (by decide) rfl rfl (fun (c7 : (90 : Int32) < p1) => ?_) (fun (c7 : ¬ ((90 : Int32) < p1)) => ?_)
      · refine own_iloadN X0 hx (hb hby own_d2_28) (q := 29) rfl rfl ?_
        refine own_bipush X0 hx (v := (97 : Int32)) (hb hby own_d2_29) (q := 31) rfl rfl ?_
        refine own_icmpP X0 hx (hb hby own_d2_31) (cd := .lt) (x := p1) (y := (97 : Int32)) (pt := 42) (q := 34) (by decide) (by decide) rfl rfl (fun (c8 : p1 < (97 : Int32)) => ?_) (fun (c8 : ¬ (p1 < (97 : Int32))) => ?_)
        · refine own_iloadN X0 hx (hb hby own_d2_42) (q := 43) rfl rfl ?_
          refine own_bipush X0 hx (v := (45 : Int32)) (hb hby own_d2_43) (q := 45) rfl rfl ?_
          refine own_icmpM X0 hx (hb hby own_d2_45) (cd := .ne) (x := p1) (y := (45 : Int32)) (pt := 52) (q := 48) (by decide) (by decide) rfl rfl (fun (c9 : ¬ (p1 = (45 : Int32))) => ?_) (fun (c9 : p1 = (45 : Int32)) => ?_)
          · refine own_iconst X0 hx (v := (0 : Int32)) (hb hby own_d2_52) (q := 53) rfl rfl ?_
            refine own_retN X0 hx hlk (t := .boolean) (by simp) Bd.returns (hb hby own_d2_53) ?_ (by decide) (by decide)
            have r : own_f2 p1 = (0 : Int32) := by rw [own_f2, if_pos c1, if_neg c2, if_pos c7, if_pos c8, if_neg c9]
            exact ⟨by rw [r] <;> rfl, e0, rfl⟩
          · refine own_iconst X0 hx (v := (1 : Int32)) (hb hby own_d2_48) (q := 49) rfl rfl ?_
            refine own_goto X0 hx (hb hby own_d2_49) (q := 53) (by decide) (by decide) ?_
            refine own_retN X0 hx hlk (t := .boolean) (by simp) Bd.returns (hb hby own_d2_53) ?_ (by decide) (by decide)
            have r : own_f2 p1 = (1 : Int32) := by rw [own_f2, if_pos c1, if_neg c2, if_pos c7, if_pos c8, if_pos c9]
            exact ⟨by rw [r] <;> rfl, e0, rfl⟩
        · refine own_iloadN X0 hx (hb hby own_d2_34) (q := 35) rfl rfl ?_
          refine own_bipush X0 hx (v := (122 : Int32)) (hb hby own_d2_35) (q := 37) rfl rfl ?_
          refine own_icmpP X0 hx (hb hby own_d2_37) (cd := .gt) (x := p1) (y := (122 : Int32)) (pt := 42) (q := 40) (by decide) (by decide) rfl rfl (fun (c10 : (122 : Int32) < p1) => ?_) (fun (c10 : ¬ ((122 : Int32) < p1)) => ?_)
          · refine own_iloadN X0 hx (hb hby own_d2_42) (q := 43) rfl rfl ?_
            refine own_bipush X0 hx (v := (45 : Int32)) (hb hby own_d2_43) (q := 45) rfl rfl ?_
            refine own_icmpM X0 hx (hb hby own_d2_45) (cd := .ne) (x := p1) (y := (45 : Int32)) (pt := 52) (q := 48) (by decide) (by decide) rfl rfl (fun (c11 : ¬ (p1 = (45 : Int32))) => ?_) (fun (c11 : p1 = (45 : Int32)) => ?_)
            · refine own_iconst X0 hx (v := (0 : Int32)) (hb hby own_d2_52) (q := 53) rfl rfl ?_
              refine own_retN X0 hx hlk (t := .boolean) (by simp) Bd.returns (hb hby own_d2_53) ?_ (by decide) (by decide)
              have r : own_f2 p1 = (0 : Int32) := by rw [own_f2, if_pos c1, if_neg c2, if_pos c7, if_neg c8, if_pos c10, if_neg c11]
              exact ⟨by rw [r] <;> rfl, e0, rfl⟩
            · refine own_iconst X0 hx (v := (1 : Int32)) (hb hby own_d2_48) (q := 49) rfl rfl ?_
              refine own_goto X0 hx (hb hby own_d2_49) (q := 53) (by decide) (by decide) ?_
              refine own_retN X0 hx hlk (t := .boolean) (by simp) Bd.returns (hb hby own_d2_53) ?_ (by decide) (by decide)
              have r : own_f2 p1 = (1 : Int32) := by rw [own_f2, if_pos c1, if_neg c2, if_pos c7, if_neg c8, if_pos c10, if_pos c11]
              exact ⟨by rw [r] <;> rfl, e0, rfl⟩
          · refine own_iconst X0 hx (v := (1 : Int32)) (hb hby own_d2_40) (q := 41) rfl rfl ?_
            refine own_retN X0 hx hlk (t := .boolean) (by simp) Bd.returns (hb hby own_d2_41) ?_ (by decide) (by decide)
            have r : own_f2 p1 = (1 : Int32) := by rw [own_f2, if_pos c1, if_neg c2, if_pos c7, if_neg c8, if_neg c10]
            exact ⟨by rw [r] <;> rfl, e0, rfl⟩
      · refine own_iconst X0 hx (v := (1 : Int32)) (hb hby own_d2_26) (q := 27) rfl rfl ?_
        refine own_retN X0 hx hlk (t := .boolean) (by simp) Bd.returns (hb hby own_d2_27) ?_ (by decide) (by decide)
        have r : own_f2 p1 = (1 : Int32) := by rw [own_f2, if_pos c1, if_neg c2, if_neg c7]
        exact ⟨by rw [r] <;> rfl, e0, rfl⟩
  · refine own_iloadN X0 hx (hb hby own_d2_6) (q := 7) rfl rfl ?_
    refine own_bipush X0 hx (v := (57 : Int32)) (hb hby own_d2_7) (q := 9) rfl rfl ?_
    refine own_icmpP X0 hx (hb hby own_d2_9) (cd := .gt) (x := p1) (y := (57 : Int32)) (pt := 14) (q := 12) (by decide) (by decide) rfl rfl (fun (c12 : (57 : Int32) < p1) => ?_) (fun (c12 : ¬ ((57 : Int32) < p1)) => ?_)
    · refine own_iloadN X0 hx (hb hby own_d2_14) (q := 15) rfl rfl ?_
      refine own_bipush X0 hx (v := (65 : Int32)) (hb hby own_d2_15) (q := 17) rfl rfl ?_
      refine own_icmpP X0 hx (hb hby own_d2_17) (cd := .lt) (x := p1) (y := (65 : Int32)) (pt := 28) (q := 20) (by decide) (by decide) rfl rfl (fun (c13 : p1 < (65 : Int32)) => ?_) (fun (c13 : ¬ (p1 < (65 : Int32))) => ?_)
      · refine own_iloadN X0 hx (hb hby own_d2_28) (q := 29) rfl rfl ?_
        refine own_bipush X0 hx (v := (97 : Int32)) (hb hby own_d2_29) (q := 31) rfl rfl ?_
        refine own_icmpP X0 hx (hb hby own_d2_31) (cd := .lt) (x := p1) (y := (97 : Int32)) (pt := 42) (q := 34) (by decide) (by decide) rfl rfl (fun (c14 : p1 < (97 : Int32)) => ?_) (fun (c14 : ¬ (p1 < (97 : Int32))) => ?_)
        · refine own_iloadN X0 hx (hb hby own_d2_42) (q := 43) rfl rfl ?_
          refine own_bipush X0 hx (v := (45 : Int32)) (hb hby own_d2_43) (q := 45) rfl rfl ?_
          refine own_icmpM X0 hx (hb hby own_d2_45) (cd := .ne) (x := p1) (y := (45 : Int32)) (pt := 52) (q := 48) (by decide) (by decide) rfl rfl (fun (c15 : ¬ (p1 = (45 : Int32))) => ?_) (fun (c15 : p1 = (45 : Int32)) => ?_)
          · refine own_iconst X0 hx (v := (0 : Int32)) (hb hby own_d2_52) (q := 53) rfl rfl ?_
            refine own_retN X0 hx hlk (t := .boolean) (by simp) Bd.returns (hb hby own_d2_53) ?_ (by decide) (by decide)
            have r : own_f2 p1 = (0 : Int32) := by rw [own_f2, if_neg c1, if_pos c12, if_pos c13, if_pos c14, if_neg c15]
            exact ⟨by rw [r] <;> rfl, e0, rfl⟩
          · refine own_iconst X0 hx (v := (1 : Int32)) (hb hby own_d2_48) (q := 49) rfl rfl ?_
            refine own_goto X0 hx (hb hby own_d2_49) (q := 53) (by decide) (by decide) ?_
            refine own_retN X0 hx hlk (t := .boolean) (by simp) Bd.returns (hb hby own_d2_53) ?_ (by decide) (by decide)
            have r : own_f2 p1 = (1 : Int32) := by rw [own_f2, if_neg c1, if_pos c12, if_pos c13, if_pos c14, if_pos c15]
            exact ⟨by rw [r] <;> rfl, e0, rfl⟩
        · refine own_iloadN X0 hx (hb hby own_d2_34) (q := 35) rfl rfl ?_
          refine own_bipush X0 hx (v := (122 : Int32)) (hb hby own_d2_35) (q := 37) rfl rfl ?_
          refine own_icmpP X0 hx (hb hby own_d2_37) (cd := .gt) (x := p1) (y := (122 : Int32)) (pt := 42) (q := 40) (by decide) (by decide) rfl rfl (fun (c16 : (122 : Int32) < p1) => ?_) (fun (c16 : ¬ ((122 : Int32) < p1)) => ?_)
          · refine own_iloadN X0 hx (hb hby own_d2_42) (q := 43) rfl rfl ?_
            refine own_bipush X0 hx (v := (45 : Int32)) (hb hby own_d2_43) (q := 45) rfl rfl ?_
            refine own_icmpM X0 hx (hb hby own_d2_45) (cd := .ne) (x := p1) (y := (45 : Int32)) (pt := 52) (q := 48) (by decide) (by decide) rfl rfl (fun (c17 : ¬ (p1 = (45 : Int32))) => ?_) (fun (c17 : p1 = (45 : Int32)) => ?_)
            · refine own_iconst X0 hx (v := (0 : Int32)) (hb hby own_d2_52) (q := 53) rfl rfl ?_
              refine own_retN X0 hx hlk (t := .boolean) (by simp) Bd.returns (hb hby own_d2_53) ?_ (by decide) (by decide)
              have r : own_f2 p1 = (0 : Int32) := by rw [own_f2, if_neg c1, if_pos c12, if_pos c13, if_neg c14, if_pos c16, if_neg c17]
              exact ⟨by rw [r] <;> rfl, e0, rfl⟩
            · refine own_iconst X0 hx (v := (1 : Int32)) (hb hby own_d2_48) (q := 49) rfl rfl ?_
              refine own_goto X0 hx (hb hby own_d2_49) (q := 53) (by decide) (by decide) ?_
              refine own_retN X0 hx hlk (t := .boolean) (by simp) Bd.returns (hb hby own_d2_53) ?_ (by decide) (by decide)
              have r : own_f2 p1 = (1 : Int32) := by rw [own_f2, if_neg c1, if_pos c12, if_pos c13, if_neg c14, if_pos c16, if_pos c17]
              exact ⟨by rw [r] <;> rfl, e0, rfl⟩
          · refine own_iconst X0 hx (v := (1 : Int32)) (hb hby own_d2_40) (q := 41) rfl rfl ?_
            refine own_retN X0 hx hlk (t := .boolean) (by simp) Bd.returns (hb hby own_d2_41) ?_ (by decide) (by decide)
            have r : own_f2 p1 = (1 : Int32) := by rw [own_f2, if_neg c1, if_pos c12, if_pos c13, if_neg c14, if_neg c16]
            exact ⟨by rw [r] <;> rfl, e0, rfl⟩
      · refine own_iloadN X0 hx (hb hby own_d2_20) (q := 21) rfl rfl ?_
        refine own_bipush X0 hx (v := (90 : Int32)) (hb hby own_d2_21) (q := 23) rfl rfl ?_
        refine own_icmpP X0 hx (hb hby own_d2_23) (cd := .gt) (x := p1) (y := (90 : Int32)) (pt := 28) (q := 26) (by decide) (by decide) rfl rfl (fun (c18 : (90 : Int32) < p1) => ?_) (fun (c18 : ¬ ((90 : Int32) < p1)) => ?_)
        · refine own_iloadN X0 hx (hb hby own_d2_28) (q := 29) rfl rfl ?_
          refine own_bipush X0 hx (v := (97 : Int32)) (hb hby own_d2_29) (q := 31) rfl rfl ?_
          refine own_icmpP X0 hx (hb hby own_d2_31) (cd := .lt) (x := p1) (y := (97 : Int32)) (pt := 42) (q := 34) (by decide) (by decide) rfl rfl (fun (c19 : p1 < (97 : Int32)) => ?_) (fun (c19 : ¬ (p1 < (97 : Int32))) => ?_)
          · refine own_iloadN X0 hx (hb hby own_d2_42) (q := 43) rfl rfl ?_
            refine own_bipush X0 hx (v := (45 : Int32)) (hb hby own_d2_43) (q := 45) rfl rfl ?_
            refine own_icmpM X0 hx (hb hby own_d2_45) (cd := .ne) (x := p1) (y := (45 : Int32)) (pt := 52) (q := 48) (by decide) (by decide) rfl rfl (fun (c20 : ¬ (p1 = (45 : Int32))) => ?_) (fun (c20 : p1 = (45 : Int32)) => ?_)
            · refine own_iconst X0 hx (v := (0 : Int32)) (hb hby own_d2_52) (q := 53) rfl rfl ?_
              refine own_retN X0 hx hlk (t := .boolean) (by simp) Bd.returns (hb hby own_d2_53) ?_ (by decide) (by decide)
              have r : own_f2 p1 = (0 : Int32) := by rw [own_f2, if_neg c1, if_pos c12, if_neg c13, if_pos c18, if_pos c19, if_neg c20]
              exact ⟨by rw [r] <;> rfl, e0, rfl⟩
            · refine own_iconst X0 hx (v := (1 : Int32)) (hb hby own_d2_48) (q := 49) rfl rfl ?_
              refine own_goto X0 hx (hb hby own_d2_49) (q := 53) (by decide) (by decide) ?_
              refine own_retN X0 hx hlk (t := .boolean) (by simp) Bd.returns (hb hby own_d2_53) ?_ (by decide) (by decide)
              have r : own_f2 p1 = (1 : Int32) := by rw [own_f2, if_neg c1, if_pos c12, if_neg c13, if_pos c18, if_pos c19, if_pos c20]
              exact ⟨by rw [r] <;> rfl, e0, rfl⟩
          · refine own_iloadN X0 hx (hb hby own_d2_34) (q := 35) rfl rfl ?_
            refine own_bipush X0 hx (v := (122 : Int32)) (hb hby own_d2_35) (q := 37) rfl rfl ?_
            refine own_icmpP X0 hx (hb hby own_d2_37) (cd := .gt) (x := p1) (y := (122 : Int32)) (pt := 42) (q := 40) (by decide) (by decide) rfl rfl (fun (c21 : (122 : Int32) < p1) => ?_) (fun (c21 : ¬ ((122 : Int32) < p1)) => ?_)
            · refine own_iloadN X0 hx (hb hby own_d2_42) (q := 43) rfl rfl ?_
              refine own_bipush X0 hx (v := (45 : Int32)) (hb hby own_d2_43) (q := 45) rfl rfl ?_
              refine own_icmpM X0 hx (hb hby own_d2_45) (cd := .ne) (x := p1) (y := (45 : Int32)) (pt := 52) (q := 48) (by decide) (by decide) rfl rfl (fun (c22 : ¬ (p1 = (45 : Int32))) => ?_) (fun (c22 : p1 = (45 : Int32)) => ?_)
              · refine own_iconst X0 hx (v := (0 : Int32)) (hb hby own_d2_52) (q := 53) rfl rfl ?_
                refine own_retN X0 hx hlk (t := .boolean) (by simp) Bd.returns (hb hby own_d2_53) ?_ (by decide) (by decide)
                have r : own_f2 p1 = (0 : Int32) := by rw [own_f2, if_neg c1, if_pos c12, if_neg c13, if_pos c18, if_neg c19, if_pos c21, if_neg c22]
                exact ⟨by rw [r] <;> rfl, e0, rfl⟩
              · refine own_iconst X0 hx (v := (1 : Int32)) (hb hby own_d2_48) (q := 49) rfl rfl ?_
                refine own_goto X0 hx (hb hby own_d2_49) (q := 53) (by decide) (by decide) ?_
                refine own_retN X0 hx hlk (t := .boolean) (by simp) Bd.returns (hb hby own_d2_53) ?_ (by decide) (by decide)
                have r : own_f2 p1 = (1 : Int32) := by rw [own_f2, if_neg c1, if_pos c12, if_neg c13, if_pos c18, if_neg c19, if_pos c21, if_pos c22]
                exact ⟨by rw [r] <;> rfl, e0, rfl⟩
            · refine own_iconst X0 hx (v := (1 : Int32)) (hb hby own_d2_40) (q := 41) rfl rfl ?_
              refine own_retN X0 hx hlk (t := .boolean) (by simp) Bd.returns (hb hby own_d2_41) ?_ (by decide) (by decide)
              have r : own_f2 p1 = (1 : Int32) := by rw [own_f2, if_neg c1, if_pos c12, if_neg c13, if_pos c18, if_neg c19, if_neg c21]
              exact ⟨by rw [r] <;> rfl, e0, rfl⟩
        · refine own_iconst X0 hx (v := (1 : Int32)) (hb hby own_d2_26) (q := 27) rfl rfl ?_
          refine own_retN X0 hx hlk (t := .boolean) (by simp) Bd.returns (hb hby own_d2_27) ?_ (by decide) (by decide)
          have r : own_f2 p1 = (1 : Int32) := by rw [own_f2, if_neg c1, if_pos c12, if_neg c13, if_neg c18]
          exact ⟨by rw [r] <;> rfl, e0, rfl⟩
    · refine own_iconst X0 hx (v := (1 : Int32)) (hb hby own_d2_12) (q := 13) rfl rfl ?_
      refine own_retN X0 hx hlk (t := .boolean) (by simp) Bd.returns (hb hby own_d2_13) ?_ (by decide) (by decide)
      have r : own_f2 p1 = (1 : Int32) := by rw [own_f2, if_neg c1, if_neg c12]
      exact ⟨by rw [r] <;> rfl, e0, rfl⟩
set_option maxHeartbeats 40000000 in
theorem own_same (c : Int32) (k : Addr) (vs : List Value) (h : ¬ c < 0) : own_f1 c k vs = own_f2 c := by
  have t : own_tab c = 0 ↔ (c.toInt < 45 ∨ (45 < c.toInt ∧ c.toInt < 48) ∨ (58 ≤ c.toInt ∧ c.toInt < 65) ∨ (91 ≤ c.toInt ∧ c.toInt < 97) ∨ 123 ≤ c.toInt) := by
    unfold own_tab
    simp only [Int32.lt_iff_toInt_lt, ← Int32.toInt_inj (y := 45), Int32.reduceToInt] at *
    repeat' split
    all_goals (constructor <;> intro h <;> first | omega | exact absurd h (by decide) | rfl)
  unfold own_f1 own_f2
  simp only [t, Int32.lt_iff_toInt_lt, ← Int32.toInt_inj, Int32.reduceToInt] at *
  clear t
  repeat' split
  all_goals first | omega | with_reducible rfl
theorem own_pd0 : parseMethodDescriptor "(C)Z" = some ⟨[.char], some .boolean⟩ := by decide +kernel
theorem own_ef0 (m : MethodId) (p1 : Int32) (p2 : Int32) : entryFrame m #[.int p1, .int p2] maxLocals = mkF m 0 #[.val (.int p1), .val (.int p2), .unset] [] := by first | (simp [entryFrame, mkF, argsToLocals, Value.category, maxLocals]; done) | rfl
def own_Q0 (n0 : Nat) (v : Option Value) (h : Heap) (L : List Loc) : Prop := v = some (.int 1) ∧ Fr n0 L
set_option maxRecDepth 65536 in
set_option maxHeartbeats 40000000 in
theorem rm0 (l : Launch) (Z : State) (a0 : Array Value) (hw : ∀ d ∈ tables_1, d.before a0 Z = true) (ws : List Jvm.Cond) (p1 : Int32) (p2 : Int32) (h0 : Heap) (n0 : Nat) (Z0 : n0 ≤ h0.size) {s0 : Addr} {vs : List Value} (SS : Sta Z h0 "com/example/hell/hell/VersionSyntax" "IDENTIFIER_CHARACTERS" "[Z" (.ref s0)) (VA : own_A Z h0 s0 .boolean vs) (VL : vs.length = 128) (VV : ∀ j : Int32, ¬ j < 0 → j < 128 → vs[j.toNatClampNeg]? = some (.int (own_tab j))) :
    MetFree l x (head1 (Jvm.Cond.code x code maxLocals ret :: ws) room_1) (fun a U => a = #[.int p1, .int p2] ∧ Z.Warmed39 U.vm ∧ U.heap = h0) (fun _ _ _ _ _ => True) (fun _ U o U' => ∃ v L, o = .returned v ∧ own_Q0 n0 v U'.heap L ∧ FrameEnd U o U' L 0 0) := by
  refine MetFree.of_bodySF (plainFor_of_name own_pn2) hisR ?_
  intro p e s m args below meth c s₁ Bd hml0 hP hK
  obtain ⟨rfl, hZ, hh⟩ := hP
  have hx := Bd.exec
  have hby := Bd.bytes
  have hml : c.maxLocals = 3 := hml0
  have hown : s.vm.findClass "com/example/hell/hell/VersionSyntaxIsIdentifierCharacterPinLaw" = some m.cls := findClass_of_methodNamed Bd.named
  have hnm := (name_of_methodNamed Bd.named Bd.method).1
  have hlk : meth.locks = false := BodyLoose.notSynchronized Bd
  have X0 : Stand p l e room_1 s m #[.int p1, .int p2] below meth c s₁ [] 0 0 := Stand.of_body Bd
  have e0 : s₁.heap = h0 := by rw [← hh, Bd.state]; rfl
  have N0 := Fr.nil n0
  show own_Go p e below s 0 0 (own_Q0 n0) (s₁.setTop (entryFrame m #[.int p1, .int p2] maxLocals))
  rw [own_ef0]
  refine own_iloadN X0 hx (hb hby at_0) (q := 1) rfl rfl ?_
  refine own_iconst X0 hx (v := (1 : Int32)) (hb hby at_1) (q := 2) rfl rfl ?_
  refine own_iand X0 hx (hb hby at_2) (q := 3) rfl ?_
  refine own_if0P X0 hx (hb hby at_3) (cd := .eq) (x := p2 &&& (1 : Int32)) (pt := 15) (q := 6) (by decide) (by decide) rfl rfl (fun (c1 : (p2 &&& (1 : Int32)) = (0 : Int32)) => ?_) (fun (c1 : ¬ ((p2 &&& (1 : Int32)) = (0 : Int32))) => ?_)
  · refine own_iloadN X0 hx (hb hby at_15) (q := 16) rfl rfl ?_
    refine own_ldc X0 hx hZ hown (hw _ (List.mem_of_getElem? (i := 10) rfl)) (hb hby at_16) (q := 18) rfl ?_
    refine own_iand X0 hx (hb hby at_18) (q := 19) rfl ?_
    refine own_i2c X0 hx (hb hby at_19) (q := 20) rfl ?_
    refine own_istoreN (L' := #[.val (.int p1), .val (.int p2), .val (.int ((p1 &&& (65535 : Int32)).toUInt32.toUInt16.toUInt32.toInt32))]) X0 hx (hb hby at_20) (q := 21) rfl rfl ?_
    refine own_iloadN X0 hx (hb hby at_21) (q := 22) rfl rfl ?_
    refine own_callSP X0 hx hZ hown (hw _ (List.mem_of_getElem? (i := 0) rfl)) (hw _ (List.mem_of_getElem? (i := 1) rfl)) (hw _ (List.mem_of_getElem? (i := 2) rfl)) (hw _ (List.mem_of_getElem? (i := 3) rfl)) (by decide) (rm1 l Z a0 hw [] ((p1 &&& (65535 : Int32)).toUInt32.toUInt16.toUInt32.toInt32) s0 vs h0 SS VA VL VV (own_c0 _)) own_pd0 rfl e0 (by rw [hml]; rfl) (argsL := [.int ((p1 &&& (65535 : Int32)).toUInt32.toUInt16.toUInt32.toInt32)]) (st := []) rfl (W := 0) (Nat.le_of_eq rfl) (by decide) (by decide) (by decide) (by decide) (hb hby at_22) (q := 25) rfl (fun T7 X8 e9 => ?_)
    refine own_iloadN X8 hx (hb hby at_25) (q := 26) rfl rfl ?_
    refine own_callSP X8 hx hZ hown (hw _ (List.mem_of_getElem? (i := 6) rfl)) (hw _ (List.mem_of_getElem? (i := 7) rfl)) (hw _ (List.mem_of_getElem? (i := 8) rfl)) (hw _ (List.mem_of_getElem? (i := 9) rfl)) (by decide) (rm2 l Z a0 hw [] ((p1 &&& (65535 : Int32)).toUInt32.toUInt16.toUInt32.toInt32) h0) own_pd0 rfl e9 (by rw [hml]; rfl) (argsL := [.int ((p1 &&& (65535 : Int32)).toUInt32.toUInt16.toUInt32.toInt32)]) (st := [.int (own_f1 ((p1 &&& (65535 : Int32)).toUInt32.toUInt16.toUInt32.toInt32) s0 vs)]) rfl (W := 1) (Nat.le_of_eq rfl) (by decide) (by decide) (by decide) (by decide) (hb hby at_26) (q := 29) rfl (fun T10 X11 e12 => ?_)
    refine own_icmpM X11 hx (hb hby at_29) (cd := .ne) (x := own_f1 ((p1 &&& (65535 : Int32)).toUInt32.toUInt16.toUInt32.toInt32) s0 vs) (y := own_f2 ((p1 &&& (65535 : Int32)).toUInt32.toUInt16.toUInt32.toInt32)) (pt := 36) (q := 32) (by decide) (by decide) rfl rfl (fun h => False.elim (h (own_same _ _ _ (own_c0 _) : (own_f1 ((p1 &&& (65535 : Int32)).toUInt32.toUInt16.toUInt32.toInt32) s0 vs) = (own_f2 ((p1 &&& (65535 : Int32)).toUInt32.toUInt16.toUInt32.toInt32))))) (fun _ => ?_)
    refine own_iconst X11 hx (v := (1 : Int32)) (hb hby at_32) (q := 33) rfl rfl ?_
    refine own_goto X11 hx (hb hby at_33) (q := 37) (by decide) (by decide) ?_
    refine own_retN X11 hx hlk (t := .boolean) (by simp) Bd.returns (hb hby at_37) ?_ (by decide) (by decide)
    exact ⟨rfl, N0⟩
  · refine own_iloadN X0 hx (hb hby at_6) (q := 7) rfl rfl ?_
    refine own_bipush X0 hx (v := (127 : Int32)) (hb hby at_7) (q := 9) rfl rfl ?_
    refine own_iand X0 hx (hb hby at_9) (q := 10) rfl ?_
    refine own_i2c X0 hx (hb hby at_10) (q := 11) rfl ?_
    refine own_istoreN (L' := #[.val (.int p1), .val (.int p2), .val (.int ((p1 &&& (127 : Int32)).toUInt32.toUInt16.toUInt32.toInt32))]) X0 hx (hb hby at_11) (q := 12) rfl rfl ?_
    refine own_goto X0 hx (hb hby at_12) (q := 21) (by decide) (by decide) ?_
    refine own_iloadN X0 hx (hb hby at_21) (q := 22) rfl rfl ?_
    refine own_callSP X0 hx hZ hown (hw _ (List.mem_of_getElem? (i := 0) rfl)) (hw _ (List.mem_of_getElem? (i := 1) rfl)) (hw _ (List.mem_of_getElem? (i := 2) rfl)) (hw _ (List.mem_of_getElem? (i := 3) rfl)) (by decide) (rm1 l Z a0 hw [] ((p1 &&& (127 : Int32)).toUInt32.toUInt16.toUInt32.toInt32) s0 vs h0 SS VA VL VV (own_c0 _)) own_pd0 rfl e0 (by rw [hml]; rfl) (argsL := [.int ((p1 &&& (127 : Int32)).toUInt32.toUInt16.toUInt32.toInt32)]) (st := []) rfl (W := 0) (Nat.le_of_eq rfl) (by decide) (by decide) (by decide) (by decide) (hb hby at_22) (q := 25) rfl (fun T13 X14 e15 => ?_)
    refine own_iloadN X14 hx (hb hby at_25) (q := 26) rfl rfl ?_
    refine own_callSP X14 hx hZ hown (hw _ (List.mem_of_getElem? (i := 6) rfl)) (hw _ (List.mem_of_getElem? (i := 7) rfl)) (hw _ (List.mem_of_getElem? (i := 8) rfl)) (hw _ (List.mem_of_getElem? (i := 9) rfl)) (by decide) (rm2 l Z a0 hw [] ((p1 &&& (127 : Int32)).toUInt32.toUInt16.toUInt32.toInt32) h0) own_pd0 rfl e15 (by rw [hml]; rfl) (argsL := [.int ((p1 &&& (127 : Int32)).toUInt32.toUInt16.toUInt32.toInt32)]) (st := [.int (own_f1 ((p1 &&& (127 : Int32)).toUInt32.toUInt16.toUInt32.toInt32) s0 vs)]) rfl (W := 1) (Nat.le_of_eq rfl) (by decide) (by decide) (by decide) (by decide) (hb hby at_26) (q := 29) rfl (fun T16 X17 e18 => ?_)
    refine own_icmpM X17 hx (hb hby at_29) (cd := .ne) (x := own_f1 ((p1 &&& (127 : Int32)).toUInt32.toUInt16.toUInt32.toInt32) s0 vs) (y := own_f2 ((p1 &&& (127 : Int32)).toUInt32.toUInt16.toUInt32.toInt32)) (pt := 36) (q := 32) (by decide) (by decide) rfl rfl (fun h => False.elim (h (own_same _ _ _ (own_c0 _) : (own_f1 ((p1 &&& (127 : Int32)).toUInt32.toUInt16.toUInt32.toInt32) s0 vs) = (own_f2 ((p1 &&& (127 : Int32)).toUInt32.toUInt16.toUInt32.toInt32))))) (fun _ => ?_)
    refine own_iconst X17 hx (v := (1 : Int32)) (hb hby at_32) (q := 33) rfl rfl ?_
    refine own_goto X17 hx (hb hby at_33) (q := 37) (by decide) (by decide) ?_
    refine own_retN X17 hx hlk (t := .boolean) (by simp) Bd.returns (hb hby at_37) ?_ (by decide) (by decide)
    exact ⟨rfl, N0⟩
set_option maxRecDepth 65536 in
set_option maxHeartbeats 40000000 in
theorem comes_1 {Post : Tables → Env → Array Value → State → Outcome → State → Prop} (hpost : ∀ tb e args s v u, (limb_1_1.after args s (.returned v) u = true ∧ limb_1_2.after args s (.returned v) u = true ∧ True) → FrameEnd s (.returned v) u (Jvm.fieldLocs frame_1_writes args s ++ Jvm.arrayLocs frame_1_arrays args s ++ Jvm.staticLocs frame_1_statics s) 0 0 → Post tb e args s (.returned v) u) :
    ArmFor flags0 classFile x code maxLocals ret World_1 tables_1 room_1 Calls_1 rest_1 Pre_1 Post := by
  intro l hfl _ _ p e ha hc hk s m args below hf hA hF happ hP
  obtain ⟨hcalls, hrest, hpre⟩ := hP
  obtain ⟨-, -, -, hnamed, -, -, -, hat⟩ := (Spec.applies_iff hf).mp happ
  obtain ⟨hg, hn⟩ := and_e (Cond.before_iff.mp (show (Jvm.Cond.and given_1 narrow_1).before args s = true from hpre))
  obtain ⟨h1, g0⟩ := and_e hg
  obtain ⟨k0, g1⟩ := and_e g0
  have k1 := g1
  obtain ⟨w0, w1, rfl⟩ : ∃ w0 w1 : Value, args = #[w0, w1] := by
    have hs : args.size = 2 := by simpa [Cond.value, given_1] using h1
    obtain ⟨L⟩ := args
    match L, hs with
    | [w0, w1], _ => exact ⟨w0, w1, rfl⟩
  have hw := fun d (hd : d ∈ tables_1) => atoms_spec (ws := Jvm.Cond.code x code maxLocals ret :: tables_1) hat d (List.mem_cons_of_mem _ hd)
  have hfit : Fit s := fun {y c} hc i hi => by
    obtain ⟨ha, rfl⟩ := Array.getElem?_eq_some_iff.mp hc
    have q := List.all_eq_true.mp ((Array.all_eq_true_iff_forall_mem.mp hF) _ (Array.getElem_mem ha)) i (List.mem_range.mpr hi)
    simpa [Array.getElem?_eq_getElem hi] using q
  obtain ⟨i0, e0⟩ := is_v k0
  obtain rfl : w0 = (.int i0) := Option.some.inj e0
  obtain ⟨i1, e1⟩ := is_v k1
  obtain rfl : w1 = (.int i1) := Option.some.inj e1
  obtain ⟨s0, vs, ev0, VA, VL, VV⟩ := own_table hfit hn
  have SS := Sta.start ev0 (Or.inr ⟨(hw _ (List.mem_of_getElem? (i := 2) rfl)), (hw _ (List.mem_of_getElem? (i := 5) rfl))⟩)
  obtain ⟨n, o, h1, h2, h3, _, L, rfl, ⟨rfl, N⟩, hq⟩ := rm0 l s _ hw tables_1 i0 i1 s.heap s.heap.size (Nat.le_refl _) SS VA VL VV p e ha hc hk s m _ below hf ((Spec.applies_iff_loose hf).mp happ).1 ⟨rfl, State.Warmed39.refl s, rfl⟩ trivial
  refine ⟨n, _, h1, h2, h3, hpost _ _ _ _ _ _ ⟨Cond.after_iff.mpr rfl, Cond.after_iff.mpr (eq_i res_at (Term.int_eval (1)) rfl), trivial⟩ ⟨hq.1, hq.2.1, (hq.2.2.sift fun y hy => Or.inr (N y hy)).mono (by decide) (by decide)⟩⟩
theorem main_1_1 : Claimed_1_1 := comes_1 fun _ _ _ _ _ _ h hF => ⟨h.1, hF⟩
theorem main_1_2 : Claimed_1_2 := comes_1 fun _ _ _ _ _ _ h hF => ⟨h.2.1, hF⟩
end Jvm.Pilot.@@N@@
namespace Jvm.Pilot.@@N@@
open Jvm Jvm.ClassFile Sem Op Lib Jvm.Free Jvm.Stand Jvm.Pilot.@@N@@.Jvm.D
/-! MADE BY PROGRAM (witnessworld.py) out of the Statement's table words and the real class files: 11 classes; the members and pool entries that the words name. The judged class is class 1, her method 2. -/
namespace start1
open Jvm.ClassFile
def u (s : String) : CpInfo := .utf8 (stringToUtf16 s)
/-- a pool by its gaps: so many unusable entries, then the entry; so many at the end -/
def gap : Nat → List CpInfo → List CpInfo
  | 0, r => r
  | n + 1, r => .unusable :: gap n r
def poolList (es : List (Nat × CpInfo)) (last : Nat) : List CpInfo := es.foldr (fun e r => gap e.1 (e.2 :: r)) (gap last [])
def pool (es : List (Nat × CpInfo)) (last : Nat) : Array CpInfo := ⟨poolList es last⟩
def fileOf (pool : Array CpInfo) (this : Nat) (attrs : Array Attribute := #[]) (ms : Array MethodInfo := #[]) (fl : Nat := 33) (sup : Nat := 0) (ifs : Array Nat := #[]) (fds : Array FieldInfo := #[]) : ClassFile where
  minorVersion := 0
  majorVersion := 65
  constantPool := pool
  accessFlags := fl
  thisClass := this
  superClass := sup
  interfaces := ifs
  fields := fds
  methods := ms
  attributes := attrs
def plain (name : String) (sup : Option ClassId) : Class where
  name := name
  kind := .ordinary
  loader := none
  accessFlags := 33
  super := sup
  interfaces := #[]
  cf := none
  fields := #[]
  methods := #[]
  instanceTypes := #[]
  staticTypes := #[]
  resolved := #[]
  callSites := []
  init := .initialized
  statics := none
  mirror := none

def pool0 : Array CpInfo := pool [(5, u "<init>"), (0, u "()V"), (1, .class_ 10), (1, u "java/lang/Object")] 113

def k0m0 : Method := { name := "<init>", desc := "()V", sig := { parameters := [], returnType := none }, accessFlags := 1, code := none }
/-- java/lang/Object -/
def k0 : Class := { plain "java/lang/Object" none with
  accessFlags := 33
  interfaces := #[]
  cf := some (fileOf pool0 8 #[] #[{ accessFlags := 1, nameIndex := 5, descriptorIndex := 6, attributes := #[] }] 33 0 #[] #[])
  fields := #[]
  methods := #[k0m0]
  instanceTypes := #[]
  staticTypes := #[]
  resolved := Array.replicate 124 none
  statics := none }

def pool1 : Array CpInfo := pool [(2, .class_ 4), (1, u "java/lang/Object"), (0, u "<init>"), (0, u "()V"), (0, .integer 65535), (0, .methodref 9 10), (0, .class_ 11), (0, .nameAndType 12 13), (0, u "com/example/hell/hell/VersionSyntax"), (0, u "isIdentifierCharacter"), (0, u "(C)Z"), (0, .methodref 15 16), (0, .class_ 17), (0, .nameAndType 18 13), (0, u "com/example/hell/hell/VersionSyntaxIsIdentifierCharacterPinLaw"), (0, u "expected"), (3, u "law"), (0, u "(II)Z")] 2

def k1m0 : Method := { name := "<init>", desc := "()V", sig := { parameters := [], returnType := none }, accessFlags := 1, code := none }
def k1c1 : Code := { maxStack := 2, maxLocals := 1, code := method_2_code, exceptionTable := #[], attributes := #[] }
def k1m1 : Method := { name := "expected", desc := "(C)Z", sig := { parameters := [.char], returnType := some .boolean }, accessFlags := 10, code := some k1c1 }
def k1c2 : Code := { maxStack := 2, maxLocals := 3, code := code, exceptionTable := #[], attributes := #[] }
def k1m2 : Method := { name := "law", desc := "(II)Z", sig := { parameters := [.int, .int], returnType := some .boolean }, accessFlags := 9, code := some k1c2 }
/-- com/example/hell/hell/VersionSyntaxIsIdentifierCharacterPinLaw -/
def k1 : Class := { plain "com/example/hell/hell/VersionSyntaxIsIdentifierCharacterPinLaw" (some 0) with
  accessFlags := 49
  interfaces := #[]
  cf := some (fileOf pool1 15 #[] #[{ accessFlags := 1, nameIndex := 5, descriptorIndex := 6, attributes := #[] }, { accessFlags := 10, nameIndex := 18, descriptorIndex := 13, attributes := #[] }, { accessFlags := 9, nameIndex := 22, descriptorIndex := 23, attributes := #[] }] 49 2 #[] #[])
  fields := #[]
  methods := #[k1m0, k1m1, k1m2]
  instanceTypes := #[]
  staticTypes := #[]
  resolved := Array.replicate 26 none
  statics := none }

def pool2 : Array CpInfo := pool [(2, .class_ 4), (1, u "java/lang/Object"), (3, .class_ 10), (1, u "com/example/hell/hell/VersionSyntax"), (0, u "failurePosition"), (0, u "I"), (1, u "text"), (10, u "Ljava/lang/String;"), (2, u "incomplete"), (11, u "at"), (48, u "(C)Z"), (7, u "failureReason"), (5, u "majorEnd"), (2, u "minorEnd"), (2, u "patchEnd"), (2, u "preReleaseEnd"), (13, u "NO_IDENTIFIERS"), (0, u "[I"), (0, .fieldref 8 129), (0, .nameAndType 130 131), (0, u "IDENTIFIER_CHARACTERS"), (0, u "[Z"), (18, u "afterVersion"), (34, u "isIdentifierCharacter"), (9, u "PARTS"), (2, u "INCOMPLETE_RANGE"), (2, u "UNEXPECTED_IN_PRE_RELEASE"), (0, u "UNEXPECTED_IN_BUILD_METADATA")] 50

def k2c0 : Code := { maxStack := 2, maxLocals := 1, code := prog_25_method_25_code, exceptionTable := #[], attributes := #[] }
def k2m0 : Method := { name := "isIdentifierCharacter", desc := "(C)Z", sig := { parameters := [.char], returnType := some .boolean }, accessFlags := 8, code := some k2c0 }
/-- com/example/hell/hell/VersionSyntax -/
def k2 : Class := { plain "com/example/hell/hell/VersionSyntax" (some 0) with
  accessFlags := 32
  interfaces := #[]
  cf := some (fileOf pool2 8 #[] #[{ accessFlags := 8, nameIndex := 185, descriptorIndex := 89, attributes := #[] }] 32 2 #[] #[{ accessFlags := 24, nameIndex := 195, descriptorIndex := 12, attributes := #[] }, { accessFlags := 28, nameIndex := 198, descriptorIndex := 25, attributes := #[] }, { accessFlags := 26, nameIndex := 130, descriptorIndex := 131, attributes := #[] }, { accessFlags := 26, nameIndex := 126, descriptorIndex := 127, attributes := #[] }, { accessFlags := 26, nameIndex := 201, descriptorIndex := 25, attributes := #[] }, { accessFlags := 26, nameIndex := 202, descriptorIndex := 25, attributes := #[] }, { accessFlags := 20, nameIndex := 14, descriptorIndex := 25, attributes := #[] }, { accessFlags := 18, nameIndex := 28, descriptorIndex := 25, attributes := #[] }, { accessFlags := 4, nameIndex := 40, descriptorIndex := 12, attributes := #[] }, { accessFlags := 2, nameIndex := 11, descriptorIndex := 12, attributes := #[] }, { accessFlags := 2, nameIndex := 97, descriptorIndex := 25, attributes := #[] }, { accessFlags := 2, nameIndex := 150, descriptorIndex := 25, attributes := #[] }, { accessFlags := 2, nameIndex := 103, descriptorIndex := 12, attributes := #[] }, { accessFlags := 2, nameIndex := 106, descriptorIndex := 12, attributes := #[] }, { accessFlags := 2, nameIndex := 109, descriptorIndex := 12, attributes := #[] }, { accessFlags := 2, nameIndex := 112, descriptorIndex := 12, attributes := #[] }])
  fields := #[{ name := "PARTS", type := .int, accessFlags := 24, slot := 0, constantValue := 0 }, { name := "INCOMPLETE_RANGE", type := (.object "java/lang/String"), accessFlags := 28, slot := 1, constantValue := 0 }, { name := "IDENTIFIER_CHARACTERS", type := (.array .boolean), accessFlags := 26, slot := 2, constantValue := 0 }, { name := "NO_IDENTIFIERS", type := (.array .int), accessFlags := 26, slot := 3, constantValue := 0 }, { name := "UNEXPECTED_IN_PRE_RELEASE", type := (.object "java/lang/String"), accessFlags := 26, slot := 4, constantValue := 0 }, { name := "UNEXPECTED_IN_BUILD_METADATA", type := (.object "java/lang/String"), accessFlags := 26, slot := 5, constantValue := 0 }, { name := "text", type := (.object "java/lang/String"), accessFlags := 20, slot := 0, constantValue := 0 }, { name := "incomplete", type := (.object "java/lang/String"), accessFlags := 18, slot := 1, constantValue := 0 }, { name := "at", type := .int, accessFlags := 4, slot := 2, constantValue := 0 }, { name := "failurePosition", type := .int, accessFlags := 2, slot := 3, constantValue := 0 }, { name := "failureReason", type := (.object "java/lang/String"), accessFlags := 2, slot := 4, constantValue := 0 }, { name := "afterVersion", type := (.object "java/lang/String"), accessFlags := 2, slot := 5, constantValue := 0 }, { name := "majorEnd", type := .int, accessFlags := 2, slot := 6, constantValue := 0 }, { name := "minorEnd", type := .int, accessFlags := 2, slot := 7, constantValue := 0 }, { name := "patchEnd", type := .int, accessFlags := 2, slot := 8, constantValue := 0 }, { name := "preReleaseEnd", type := .int, accessFlags := 2, slot := 9, constantValue := 0 }]
  methods := #[k2m0]
  instanceTypes := #[(.object "java/lang/String"), (.object "java/lang/String"), .int, .int, (.object "java/lang/String"), (.object "java/lang/String"), .int, .int, .int, .int]
  staticTypes := #[.int, (.object "java/lang/String"), (.array .boolean), (.array .int), (.object "java/lang/String"), (.object "java/lang/String")]
  resolved := Array.replicate 253 none
  statics := some 0 }

def pool3 : Array CpInfo := pool [(1, u "java/lang/Cloneable"), (0, .class_ 1), (0, u "java/lang/Object"), (0, .class_ 3)] 3

/-- java/lang/Cloneable -/
def k3 : Class := { plain "java/lang/Cloneable" (some 0) with
  accessFlags := 1537
  interfaces := #[]
  cf := some (fileOf pool3 2 #[] #[] 1537 4 #[] #[])
  fields := #[]
  methods := #[]
  instanceTypes := #[]
  staticTypes := #[]
  resolved := Array.replicate 8 none
  statics := none }

def pool4 : Array CpInfo := pool [(1, u "java/io/Serializable"), (0, .class_ 1), (0, u "java/lang/Object"), (0, .class_ 3)] 3

/-- java/io/Serializable -/
def k4 : Class := { plain "java/io/Serializable" (some 0) with
  accessFlags := 1537
  interfaces := #[]
  cf := some (fileOf pool4 2 #[] #[] 1537 4 #[] #[])
  fields := #[]
  methods := #[]
  instanceTypes := #[]
  staticTypes := #[]
  resolved := Array.replicate 8 none
  statics := none }

/-- the primitive boolean -/
def k5 : Class := { plain "boolean" none with kind := .primitive 'Z', accessFlags := 0x411 }
/-- [Z -/
def k6 : Class := { plain "[Z" (some 0) with kind := .array 5 .boolean, interfaces := #[3, 4], accessFlags := 1041 }

/-- the primitive byte -/
def k7 : Class := { plain "byte" none with kind := .primitive 'B', accessFlags := 0x411 }
/-- [B -/
def k8 : Class := { plain "[B" (some 0) with kind := .array 7 .byte, interfaces := #[3, 4], accessFlags := 1041 }

/-- the primitive int -/
def k9 : Class := { plain "int" none with kind := .primitive 'I', accessFlags := 0x411 }
/-- [I -/
def k10 : Class := { plain "[I" (some 0) with kind := .array 9 .int, interfaces := #[3, 4], accessFlags := 1041 }

def heap : Heap := #[{ cls := 2, slots := #[.int 0, .null, .ref 1, .null, .null, .null], vm := .statics 2 },
  { cls := 6, slots := #[.int 0, .int 0, .int 0, .int 0, .int 0, .int 0, .int 0, .int 0, .int 0, .int 0, .int 0, .int 0, .int 0, .int 0, .int 0, .int 0, .int 0, .int 0, .int 0, .int 0, .int 0, .int 0, .int 0, .int 0, .int 0, .int 0, .int 0, .int 0, .int 0, .int 0, .int 0, .int 0, .int 0, .int 0, .int 0, .int 0, .int 0, .int 0, .int 0, .int 0, .int 0, .int 0, .int 0, .int 0, .int 0, .int 1, .int 0, .int 0, .int 1, .int 1, .int 1, .int 1, .int 1, .int 1, .int 1, .int 1, .int 1, .int 1, .int 0, .int 0, .int 0, .int 0, .int 0, .int 0, .int 0, .int 1, .int 1, .int 1, .int 1, .int 1, .int 1, .int 1, .int 1, .int 1, .int 1, .int 1, .int 1, .int 1, .int 1, .int 1, .int 1, .int 1, .int 1, .int 1, .int 1, .int 1, .int 1, .int 1, .int 1, .int 1, .int 1, .int 0, .int 0, .int 0, .int 0, .int 0, .int 0, .int 1, .int 1, .int 1, .int 1, .int 1, .int 1, .int 1, .int 1, .int 1, .int 1, .int 1, .int 1, .int 1, .int 1, .int 1, .int 1, .int 1, .int 1, .int 1, .int 1, .int 1, .int 1, .int 1, .int 1, .int 1, .int 1, .int 0, .int 0, .int 0, .int 0, .int 0], vm := .none }]
def classes : Array Class := #[k0, k1, k2, k3, k4, k5, k6, k7, k8, k9, k10]
def interned : List (Array UInt16 × Addr) := []
def slotsUsed : Nat := 134
def theMethod : MethodId := ⟨1, 2⟩
def args0 : Array Value := #[.int 5, .int 5]
def aboutOver (below : List Frame) : State where
  vm := { classes := classes, interned := interned.toArray }
  heap := heap
  slotsUsed := slotsUsed
  threads := #[{ frames := .invoking theMethod args0 :: below }]
def below0 : List Frame := [.native { method := ⟨0, 0⟩, args := #[] }]
def about1 : State := aboutOver below0
def p0 : Program := .bare "" "" ""
def e0 : Env := launch0.env 0 0 0
theorem w_frames : about1.frames = Frame.invoking theMethod args0 :: below0 := rfl
set_option maxRecDepth 65536 in
theorem w_args : argsFit about1.vm theMethod args0 = true := by decide +kernel
set_option maxRecDepth 65536 in
theorem w_heap : heapFits about1 = true := by decide +kernel
set_option maxRecDepth 65536 in
theorem w_runnable : about1.curStatus? = some .runnable := by decide +kernel
set_option maxRecDepth 65536 in
theorem w_alone : about1.alone = true := by decide +kernel
set_option maxRecDepth 65536 in
theorem w_named : about1.methodNamed? x = some theMethod := by decide +kernel
set_option maxRecDepth 65536 in
theorem w_hears : about1.hears theMethod below0 = true := by decide +kernel
set_option maxRecDepth 65536 in
theorem w_ripe : about1.ripe theMethod args0 below0 = true := by decide +kernel
theorem w_running : about1.status = .running := rfl
set_option maxRecDepth 65536 in
theorem w_room : about1.hasRoom e0.platform room_1 = true :=
  launch0.hasRoom_least _ room_1 (by decide +kernel) (by decide +kernel) (by decide +kernel) (by decide +kernel) (by decide +kernel) (by decide +kernel)
theorem allAtoms_all (ts : List Jvm.Cond) (a : Array Jvm.Value) (st : Jvm.State) : (allAtoms ts).before a st = ts.all (fun c => c.before a st) := by
  induction ts with
  | nil => rfl
  | cons c t ih =>
    show (Jvm.Cond.and c (allAtoms t)).before a st = _
    rw [Jvm.Cond.before_and, ih, List.all_cons]
def words1 : List Jvm.Cond := Jvm.Cond.code x code maxLocals ret :: tables_1
/-- a 'code' word, met by the world's own term for the bytes: nothing is compared byte by byte -/
theorem code_word {y : MethodName} {bytes : ByteArray} {mx : Nat} {rt : Option FieldType} {a : Array Value} {s : State} {m : MethodId} {meth : Method} {c : Code} (h1 : s.methodNamed? y = some m) (h2 : s.vm.method? m = some meth) (h3 : meth.code = some c) (h4 : c.code = bytes)
    (h5 : (c.maxLocals == mx && c.exceptionTable.isEmpty && decide (c.maxStack ≤ mostOperands) && decide (meth.sig.returnType = rt) && !meth.locks && decide (parseMethodDescriptor y.desc = some meth.sig)) = true) : (Jvm.Cond.code y bytes mx rt).before a s = true := by
  simp only [Bool.and_eq_true, beq_iff_eq, Bool.not_eq_true', decide_eq_true_eq] at h5
  obtain ⟨⟨⟨⟨⟨g1, g2⟩, g3⟩, g4⟩, g5⟩, g6⟩ := h5
  simp [Cond.before, Cond.holds, Cond.value, h1, h2, h3, h4, g1, g2, g3, g4, g5, g6]
def isCode : Jvm.Cond → Bool
  | .code _ _ _ _ => true
  | _ => false
theorem all_split {L : List Jvm.Cond} {P : Jvm.Cond → Bool} (h1 : L.all (fun c => isCode c || P c) = true) (h2 : ∀ c ∈ L.filter isCode, P c = true) : L.all P = true := by
  refine List.all_eq_true.mpr fun c hc => ?_
  have h := List.all_eq_true.mp h1 c hc
  rcases Bool.eq_false_or_eq_true (isCode c) with hi | hi
  · exact h2 c (List.mem_filter.mpr ⟨hc, hi⟩)
  · simpa [hi] using h
set_option maxRecDepth 65536 in
theorem w_c0 : (Jvm.Cond.code x code maxLocals ret).before args0 about1 = true := code_word (m := ⟨1, 2⟩) (meth := k1m2) (c := k1c2) (by decide +kernel) rfl rfl rfl (by decide +kernel)
set_option maxRecDepth 65536 in
theorem w_c1 : (Jvm.Cond.code ({ cls := "com/example/hell/hell/VersionSyntax", name := "isIdentifierCharacter", desc := "(C)Z" } : Jvm.MethodName) prog_25_method_25_code (1 : Nat) (Option.some Jvm.ClassFile.FieldType.boolean)).before args0 about1 = true := code_word (m := ⟨2, 0⟩) (meth := k2m0) (c := k2c0) (by decide +kernel) rfl rfl rfl (by decide +kernel)
set_option maxRecDepth 65536 in
theorem w_c2 : (Jvm.Cond.code ({ cls := "com/example/hell/hell/VersionSyntaxIsIdentifierCharacterPinLaw", name := "expected", desc := "(C)Z" } : Jvm.MethodName) method_2_code (1 : Nat) (Option.some Jvm.ClassFile.FieldType.boolean)).before args0 about1 = true := code_word (m := ⟨1, 1⟩) (meth := k1m1) (c := k1c1) (by decide +kernel) rfl rfl rfl (by decide +kernel)
def codes1 : List Jvm.Cond := [Jvm.Cond.code x code maxLocals ret, Jvm.Cond.code ({ cls := "com/example/hell/hell/VersionSyntax", name := "isIdentifierCharacter", desc := "(C)Z" } : Jvm.MethodName) prog_25_method_25_code (1 : Nat) (Option.some Jvm.ClassFile.FieldType.boolean), Jvm.Cond.code ({ cls := "com/example/hell/hell/VersionSyntaxIsIdentifierCharacterPinLaw", name := "expected", desc := "(C)Z" } : Jvm.MethodName) method_2_code (1 : Nat) (Option.some Jvm.ClassFile.FieldType.boolean)]
set_option maxRecDepth 65536 in
theorem codes_eq : words1.filter isCode = codes1 := rfl
theorem w_codes : ∀ c ∈ words1.filter isCode, c.before args0 about1 = true := by
  rw [codes_eq]
  intro c hc
  simp only [codes1, List.mem_cons, List.not_mem_nil, or_false] at hc
  rcases hc with rfl | rfl | rfl
  · exact w_c0
  · exact w_c1
  · exact w_c2
set_option maxRecDepth 65536 in
theorem w_t1 : words1.all (fun c => isCode c || c.before args0 about1) = true := by decide +kernel
theorem w_tables : (allAtoms (Jvm.Cond.code x code maxLocals ret :: tables_1)).before args0 about1 = true := by
  rw [allAtoms_all]
  show words1.all (fun c => c.before args0 about1) = true
  refine all_split ?_ w_codes
  rw [w_t1]
set_option maxRecDepth 65536 in
theorem w_case : (Jvm.Cond.and given_1 narrow_1).before args0 about1 = true := by decide +kernel
theorem w_applies : (headSpec (Jvm.Cond.code x code maxLocals ret :: tables_1) room_1).applies x e0.platform about1 = true :=
  (Spec.applies_iff w_frames).mpr ⟨w_running, w_runnable, w_alone, w_named, w_hears, w_ripe, w_room, w_tables⟩
theorem atStart : AtStart classFile x code maxLocals ret World_1 tables_1 room_1 Calls_1 rest_1 Pre_1 launch0 p0 e0 about1 theMethod args0 below0 :=
  ⟨lists_1, trivial, launch0.admits_env _ _ _, launch0.least_env, fairChoices_fair.cas, fairChoices_fair.clock, w_frames, w_args, w_heap, w_applies, trivial, trivial, w_case⟩
end start1
theorem witness_1 : WitnessClaimed_1 := ⟨start1.p0, start1.e0, start1.about1, start1.theMethod, start1.args0, start1.below0, start1.atStart⟩
end Jvm.Pilot.@@N@@
