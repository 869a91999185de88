import JvmDerived
import JvmDerived.Pilot.@@N@@Statement
import JvmDerived.Pilot.@@N@@Code
set_option linter.unusedVariables false
set_option linter.unusedSimpArgs false
namespace Jvm.Pilot.@@N@@
open Jvm Jvm.ClassFile Sem Op Lib Jvm.Free Jvm.Stand Jvm.LawKit Jvm.RoadKit Bundle Jvm.Pilot.@@N@@.Jvm.D
section OwnKit
variable {p : Program} {l : Launch} {e : Env} {R : Room} {s : State} {m : MethodId} {args : Array Value} {below : List Frame} {meth : Method} {c : Code} {T : State} {locs : List Loc} {cells slots kc ks : Nat} {Q : Option Value → Heap → List Loc → Prop} {pc q : Nat} {Ls L' : Array Slot} {st : List Value}
def own_Go (p : Program) (e : Env) (below : List Frame) (s : State) (kc ks : Nat) (Q : Option Value → Heap → List Loc → Prop) (U : State) : Prop :=
  ∃ s₂ o, Steps p.tables e below U s₂ ∧ s₂.status = .running ∧ Ended s₂ below o ∧ ∃ v L, o = .returned v ∧ Q v s₂.heap L ∧ FrameEnd s o s₂ L kc ks
theorem own_via {U V : State} (h : ∀ t, Steps p.tables e below V t → Steps p.tables e below U t) (K : own_Go p e below s kc ks Q V) : own_Go p e below s kc ks Q U := by
  obtain ⟨a, b, h1, r⟩ := K; exact ⟨a, b, h _ h1, r⟩
def own_P (w : Value) (h : Heap) (v : Option Value) (h' : Heap) (L : List Loc) : Prop := v = some w ∧ h' = h ∧ L = []
theorem own_iadd (X : Stand p l e R s m args below meth c T locs cells slots) (hx : p.tables.exec = Jvm.exec) {x y : Int32} (hd : decode c.code pc = .ok (.iadd, 1)) (hq : pc + 1 = q)  (K : own_Go p e below s kc ks Q (T.setTop (mkF m q Ls (.int (x + y) :: st)))) : own_Go p e below s kc ks Q (T.setTop (mkF m pc Ls (.int y :: .int x :: st))) := by
  subst hq; exact own_via (fun t => XS.iadd X.here hx rfl hd rfl) K
theorem own_isub (X : Stand p l e R s m args below meth c T locs cells slots) (hx : p.tables.exec = Jvm.exec) {x y : Int32} (hd : decode c.code pc = .ok (.isub, 1)) (hq : pc + 1 = q)  (K : own_Go p e below s kc ks Q (T.setTop (mkF m q Ls (.int (x - y) :: st)))) : own_Go p e below s kc ks Q (T.setTop (mkF m pc Ls (.int y :: .int x :: st))) := by
  subst hq; exact own_via (fun t => XS.isub X.here hx rfl hd rfl) K
theorem own_imul (X : Stand p l e R s m args below meth c T locs cells slots) (hx : p.tables.exec = Jvm.exec) {x y : Int32} (hd : decode c.code pc = .ok (.imul, 1)) (hq : pc + 1 = q)  (K : own_Go p e below s kc ks Q (T.setTop (mkF m q Ls (.int (x * y) :: st)))) : own_Go p e below s kc ks Q (T.setTop (mkF m pc Ls (.int y :: .int x :: st))) := by
  subst hq; exact own_via (fun t => XS.imul X.here hx rfl hd rfl) K
theorem own_iand (X : Stand p l e R s m args below meth c T locs cells slots) (hx : p.tables.exec = Jvm.exec) {x y : Int32} (hd : decode c.code pc = .ok (.iand, 1)) (hq : pc + 1 = q)  (K : own_Go p e below s kc ks Q (T.setTop (mkF m q Ls (.int (x &&& y) :: st)))) : own_Go p e below s kc ks Q (T.setTop (mkF m pc Ls (.int y :: .int x :: st))) := by
  subst hq; exact own_via (fun t => XS.iand X.here hx rfl hd rfl) K
theorem own_ixor (X : Stand p l e R s m args below meth c T locs cells slots) (hx : p.tables.exec = Jvm.exec) {x y : Int32} (hd : decode c.code pc = .ok (.ixor, 1)) (hq : pc + 1 = q)  (K : own_Go p e below s kc ks Q (T.setTop (mkF m q Ls (.int (x ^^^ y) :: st)))) : own_Go p e below s kc ks Q (T.setTop (mkF m pc Ls (.int y :: .int x :: st))) := by
  subst hq; exact own_via (fun t => XT.ixor X.here hx rfl hd rfl) K
theorem own_ior (X : Stand p l e R s m args below meth c T locs cells slots) (hx : p.tables.exec = Jvm.exec) {x y : Int32} (hd : decode c.code pc = .ok (.ior, 1)) (hq : pc + 1 = q)  (K : own_Go p e below s kc ks Q (T.setTop (mkF m q Ls (.int (x ||| y) :: st)))) : own_Go p e below s kc ks Q (T.setTop (mkF m pc Ls (.int y :: .int x :: st))) := by
  subst hq; exact own_via (fun t => XT.ior X.here hx rfl hd rfl) K
theorem own_ishl (X : Stand p l e R s m args below meth c T locs cells slots) (hx : p.tables.exec = Jvm.exec) {x y : Int32} (hd : decode c.code pc = .ok (.ishl, 1)) (hq : pc + 1 = q)  (K : own_Go p e below s kc ks Q (T.setTop (mkF m q Ls (.int (x <<< (y &&& 31)) :: st)))) : own_Go p e below s kc ks Q (T.setTop (mkF m pc Ls (.int y :: .int x :: st))) := by
  subst hq; exact own_via (fun t => XT.ishl X.here hx rfl hd rfl) K
theorem own_ishr (X : Stand p l e R s m args below meth c T locs cells slots) (hx : p.tables.exec = Jvm.exec) {x y : Int32} (hd : decode c.code pc = .ok (.ishr, 1)) (hq : pc + 1 = q)  (K : own_Go p e below s kc ks Q (T.setTop (mkF m q Ls (.int (x >>> (y &&& 31)) :: st)))) : own_Go p e below s kc ks Q (T.setTop (mkF m pc Ls (.int y :: .int x :: st))) := by
  subst hq; exact own_via (fun t => XT.ishr X.here hx rfl hd rfl) K
theorem own_iushr (X : Stand p l e R s m args below meth c T locs cells slots) (hx : p.tables.exec = Jvm.exec) {x y : Int32} (hd : decode c.code pc = .ok (.iushr, 1)) (hq : pc + 1 = q)  (K : own_Go p e below s kc ks Q (T.setTop (mkF m q Ls (.int (XT.ushr x y) :: st)))) : own_Go p e below s kc ks Q (T.setTop (mkF m pc Ls (.int y :: .int x :: st))) := by
  subst hq; exact own_via (fun t => XT.iushr X.here hx rfl hd rfl) K
theorem own_idiv (X : Stand p l e R s m args below meth c T locs cells slots) (hx : p.tables.exec = Jvm.exec) {x y : Int32} (hd : decode c.code pc = .ok (.idiv, 1)) (hq : pc + 1 = q) (hy : y ≠ 0) (K : own_Go p e below s kc ks Q (T.setTop (mkF m q Ls (.int (x / y) :: st)))) : own_Go p e below s kc ks Q (T.setTop (mkF m pc Ls (.int y :: .int x :: st))) := by
  subst hq; exact own_via (fun t => XS.idiv X.here hx rfl hd rfl hy) K
theorem own_irem (X : Stand p l e R s m args below meth c T locs cells slots) (hx : p.tables.exec = Jvm.exec) {x y : Int32} (hd : decode c.code pc = .ok (.irem, 1)) (hq : pc + 1 = q) (hy : y ≠ 0) (K : own_Go p e below s kc ks Q (T.setTop (mkF m q Ls (.int (x % y) :: st)))) : own_Go p e below s kc ks Q (T.setTop (mkF m pc Ls (.int y :: .int x :: st))) := by
  subst hq; exact own_via (fun t => iremM X hx rfl hd rfl hy) K
theorem own_ineg (X : Stand p l e R s m args below meth c T locs cells slots) (hx : p.tables.exec = Jvm.exec) {x : Int32} (hd : decode c.code pc = .ok (.ineg, 1)) (hq : pc + 1 = q)  (K : own_Go p e below s kc ks Q (T.setTop (mkF m q Ls (.int (-x) :: st)))) : own_Go p e below s kc ks Q (T.setTop (mkF m pc Ls (.int x :: st))) := by
  subst hq; exact own_via (fun t => XS.ineg X.here hx rfl hd rfl) K
theorem own_ladd (X : Stand p l e R s m args below meth c T locs cells slots) (hx : p.tables.exec = Jvm.exec) {x y : Int64} (hd : decode c.code pc = .ok (.ladd, 1)) (hq : pc + 1 = q)  (K : own_Go p e below s kc ks Q (T.setTop (mkF m q Ls (.long (x + y) :: st)))) : own_Go p e below s kc ks Q (T.setTop (mkF m pc Ls (.long y :: .long x :: st))) := by
  subst hq; exact own_via (fun t => XT.ladd X.here hx rfl hd rfl) K
theorem own_lsub (X : Stand p l e R s m args below meth c T locs cells slots) (hx : p.tables.exec = Jvm.exec) {x y : Int64} (hd : decode c.code pc = .ok (.lsub, 1)) (hq : pc + 1 = q)  (K : own_Go p e below s kc ks Q (T.setTop (mkF m q Ls (.long (x - y) :: st)))) : own_Go p e below s kc ks Q (T.setTop (mkF m pc Ls (.long y :: .long x :: st))) := by
  subst hq; exact own_via (fun t => XT.lsub X.here hx rfl hd rfl) K
theorem own_lmul (X : Stand p l e R s m args below meth c T locs cells slots) (hx : p.tables.exec = Jvm.exec) {x y : Int64} (hd : decode c.code pc = .ok (.lmul, 1)) (hq : pc + 1 = q)  (K : own_Go p e below s kc ks Q (T.setTop (mkF m q Ls (.long (x * y) :: st)))) : own_Go p e below s kc ks Q (T.setTop (mkF m pc Ls (.long y :: .long x :: st))) := by
  subst hq; exact own_via (fun t => XT.lmul X.here hx rfl hd rfl) K
theorem own_land (X : Stand p l e R s m args below meth c T locs cells slots) (hx : p.tables.exec = Jvm.exec) {x y : Int64} (hd : decode c.code pc = .ok (.land, 1)) (hq : pc + 1 = q)  (K : own_Go p e below s kc ks Q (T.setTop (mkF m q Ls (.long (x &&& y) :: st)))) : own_Go p e below s kc ks Q (T.setTop (mkF m pc Ls (.long y :: .long x :: st))) := by
  subst hq; exact own_via (fun t => XT.land X.here hx rfl hd rfl) K
theorem own_lor (X : Stand p l e R s m args below meth c T locs cells slots) (hx : p.tables.exec = Jvm.exec) {x y : Int64} (hd : decode c.code pc = .ok (.lor, 1)) (hq : pc + 1 = q)  (K : own_Go p e below s kc ks Q (T.setTop (mkF m q Ls (.long (x ||| y) :: st)))) : own_Go p e below s kc ks Q (T.setTop (mkF m pc Ls (.long y :: .long x :: st))) := by
  subst hq; exact own_via (fun t => XT.lor X.here hx rfl hd rfl) K
theorem own_lxor (X : Stand p l e R s m args below meth c T locs cells slots) (hx : p.tables.exec = Jvm.exec) {x y : Int64} (hd : decode c.code pc = .ok (.lxor, 1)) (hq : pc + 1 = q)  (K : own_Go p e below s kc ks Q (T.setTop (mkF m q Ls (.long (x ^^^ y) :: st)))) : own_Go p e below s kc ks Q (T.setTop (mkF m pc Ls (.long y :: .long x :: st))) := by
  subst hq; exact own_via (fun t => XT.lxor X.here hx rfl hd rfl) K
theorem own_ldiv (X : Stand p l e R s m args below meth c T locs cells slots) (hx : p.tables.exec = Jvm.exec) {x y : Int64} (hd : decode c.code pc = .ok (.ldiv, 1)) (hq : pc + 1 = q) (hy : y ≠ 0) (K : own_Go p e below s kc ks Q (T.setTop (mkF m q Ls (.long (x / y) :: st)))) : own_Go p e below s kc ks Q (T.setTop (mkF m pc Ls (.long y :: .long x :: st))) := by
  subst hq; exact own_via (fun t => XT.ldiv X.here hx rfl hd rfl hy) K
theorem own_lshl (X : Stand p l e R s m args below meth c T locs cells slots) (hx : p.tables.exec = Jvm.exec) {x : Int64} {y : Int32} (hd : decode c.code pc = .ok (.lshl, 1)) (hq : pc + 1 = q)  (K : own_Go p e below s kc ks Q (T.setTop (mkF m q Ls (.long (x <<< (y.toInt64 &&& 63)) :: st)))) : own_Go p e below s kc ks Q (T.setTop (mkF m pc Ls (.int y :: .long x :: st))) := by
  subst hq; exact own_via (fun t => XT.lshl X.here hx rfl hd rfl) K
theorem own_lshr (X : Stand p l e R s m args below meth c T locs cells slots) (hx : p.tables.exec = Jvm.exec) {x : Int64} {y : Int32} (hd : decode c.code pc = .ok (.lshr, 1)) (hq : pc + 1 = q)  (K : own_Go p e below s kc ks Q (T.setTop (mkF m q Ls (.long (x >>> (y.toInt64 &&& 63)) :: st)))) : own_Go p e below s kc ks Q (T.setTop (mkF m pc Ls (.int y :: .long x :: st))) := by
  subst hq; exact own_via (fun t => XT.lshr X.here hx rfl hd rfl) K
theorem own_lushr (X : Stand p l e R s m args below meth c T locs cells slots) (hx : p.tables.exec = Jvm.exec) {x : Int64} {y : Int32} (hd : decode c.code pc = .ok (.lushr, 1)) (hq : pc + 1 = q)  (K : own_Go p e below s kc ks Q (T.setTop (mkF m q Ls (.long (XT.ushrL x y) :: st)))) : own_Go p e below s kc ks Q (T.setTop (mkF m pc Ls (.int y :: .long x :: st))) := by
  subst hq; exact own_via (fun t => XT.lushr X.here hx rfl hd rfl) K
theorem own_i2l (X : Stand p l e R s m args below meth c T locs cells slots) (hx : p.tables.exec = Jvm.exec) {x : Int32} (hd : decode c.code pc = .ok (.i2l, 1)) (hq : pc + 1 = q)  (K : own_Go p e below s kc ks Q (T.setTop (mkF m q Ls (.long x.toInt64 :: st)))) : own_Go p e below s kc ks Q (T.setTop (mkF m pc Ls (.int x :: st))) := by
  subst hq; exact own_via (fun t => XT.i2l X.here hx rfl hd rfl) K
theorem own_l2i (X : Stand p l e R s m args below meth c T locs cells slots) (hx : p.tables.exec = Jvm.exec) {x : Int64} (hd : decode c.code pc = .ok (.l2i, 1)) (hq : pc + 1 = q)  (K : own_Go p e below s kc ks Q (T.setTop (mkF m q Ls (.int x.toInt32 :: st)))) : own_Go p e below s kc ks Q (T.setTop (mkF m pc Ls (.long x :: st))) := by
  subst hq; exact own_via (fun t => XT.l2i X.here hx rfl hd rfl) K
theorem own_i2c (X : Stand p l e R s m args below meth c T locs cells slots) (hx : p.tables.exec = Jvm.exec) {x : Int32} (hd : decode c.code pc = .ok (.i2c, 1)) (hq : pc + 1 = q)  (K : own_Go p e below s kc ks Q (T.setTop (mkF m q Ls (.int x.toUInt32.toUInt16.toUInt32.toInt32 :: st)))) : own_Go p e below s kc ks Q (T.setTop (mkF m pc Ls (.int x :: st))) := by
  subst hq; exact own_via (fun t => XT.i2c X.here hx rfl hd rfl) K
theorem own_i2b (X : Stand p l e R s m args below meth c T locs cells slots) (hx : p.tables.exec = Jvm.exec) {x : Int32} (hd : decode c.code pc = .ok (.i2b, 1)) (hq : pc + 1 = q)  (K : own_Go p e below s kc ks Q (T.setTop (mkF m q Ls (.int x.toInt8.toInt32 :: st)))) : own_Go p e below s kc ks Q (T.setTop (mkF m pc Ls (.int x :: st))) := by
  subst hq; exact own_via (fun t => XT.i2b X.here hx rfl hd rfl) K
theorem own_lcmp (X : Stand p l e R s m args below meth c T locs cells slots) (hx : p.tables.exec = Jvm.exec) {x y : Int64} (hd : decode c.code pc = .ok (.lcmp, 1)) (hq : pc + 1 = q)  (K : own_Go p e below s kc ks Q (T.setTop (mkF m q Ls (.int (XT.cmpL x y) :: st)))) : own_Go p e below s kc ks Q (T.setTop (mkF m pc Ls (.long y :: .long x :: st))) := by
  subst hq; exact own_via (fun t => XT.lcmp X.here hx rfl hd rfl) K
theorem own_iconst (X : Stand p l e R s m args below meth c T locs cells slots) (hx : p.tables.exec = Jvm.exec) {i : Int} (v : Int32) (hd : decode c.code pc = .ok (.iconst i, 1)) (hq : pc + 1 = q) (hv : Int32.ofInt i = v) (K : own_Go p e below s kc ks Q (T.setTop (mkF m q Ls (.int v :: st)))) : own_Go p e below s kc ks Q (T.setTop (mkF m pc Ls st)) := by
  subst hq; exact own_via (fun t => XT.iconstV (v := v) X.here hx rfl hd hv) K
theorem own_bipush (X : Stand p l e R s m args below meth c T locs cells slots) (hx : p.tables.exec = Jvm.exec) {i : Int} (v : Int32) (hd : decode c.code pc = .ok (.bipush i, 2)) (hq : pc + 2 = q) (hv : (Int8.ofInt i).toInt32 = v) (K : own_Go p e below s kc ks Q (T.setTop (mkF m q Ls (.int v :: st)))) : own_Go p e below s kc ks Q (T.setTop (mkF m pc Ls st)) := by
  subst hq; exact own_via (fun t => XT.bipushV (v := v) X.here hx rfl hd hv) K
theorem own_sipush (X : Stand p l e R s m args below meth c T locs cells slots) (hx : p.tables.exec = Jvm.exec) {i : Int} (v : Int32) (hd : decode c.code pc = .ok (.sipush i, 3)) (hq : pc + 3 = q) (hv : (Int16.ofInt i).toInt32 = v) (K : own_Go p e below s kc ks Q (T.setTop (mkF m q Ls (.int v :: st)))) : own_Go p e below s kc ks Q (T.setTop (mkF m pc Ls st)) := by
  subst hq; exact own_via (fun t => XT.sipushV (v := v) X.here hx rfl hd hv) K
theorem own_lconst (X : Stand p l e R s m args below meth c T locs cells slots) (hx : p.tables.exec = Jvm.exec) {i : Fin 2} (v : Int64) (hd : decode c.code pc = .ok (.lconst i, 1)) (hq : pc + 1 = q) (hv : Int64.ofNat i = v) (K : own_Go p e below s kc ks Q (T.setTop (mkF m q Ls (.long v :: st)))) : own_Go p e below s kc ks Q (T.setTop (mkF m pc Ls st)) := by
  subst hq; exact own_via (fun t => XT.lconstV (v := v) X.here hx rfl hd hv) K
theorem own_aconstNull (X : Stand p l e R s m args below meth c T locs cells slots) (hx : p.tables.exec = Jvm.exec)  (hd : decode c.code pc = .ok (.aconst_null, 1)) (hq : pc + 1 = q)  (K : own_Go p e below s kc ks Q (T.setTop (mkF m q Ls (.null :: st)))) : own_Go p e below s kc ks Q (T.setTop (mkF m pc Ls st)) := by
  subst hq; exact own_via (fun t => XS.aconstNull X.here hx rfl hd ) K
theorem own_iloadN (X : Stand p l e R s m args below meth c T locs cells slots) (hx : p.tables.exec = Jvm.exec) {k : Fin 4} {v : Int32} (hd : decode c.code pc = .ok (.iload_n k, 1)) (hq : pc + 1 = q) (hl : Ls[k.val]? = some (.val (.int v))) (K : own_Go p e below s kc ks Q (T.setTop (mkF m q Ls (.int v :: st)))) : own_Go p e below s kc ks Q (T.setTop (mkF m pc Ls st)) := by
  subst hq; exact own_via (fun t => XS.iloadN X.here hx rfl hd hl) K
theorem own_iload (X : Stand p l e R s m args below meth c T locs cells slots) (hx : p.tables.exec = Jvm.exec) {k : Nat} {v : Int32} (hd : decode c.code pc = .ok (.iload k, 2)) (hq : pc + 2 = q) (hl : Ls[k]? = some (.val (.int v))) (K : own_Go p e below s kc ks Q (T.setTop (mkF m q Ls (.int v :: st)))) : own_Go p e below s kc ks Q (T.setTop (mkF m pc Ls st)) := by
  subst hq; exact own_via (fun t => XS.iload X.here hx rfl hd hl) K
theorem own_lloadN (X : Stand p l e R s m args below meth c T locs cells slots) (hx : p.tables.exec = Jvm.exec) {k : Fin 4} {v : Int64} (hd : decode c.code pc = .ok (.lload_n k, 1)) (hq : pc + 1 = q) (hl : Ls[k.val]? = some (.val (.long v))) (K : own_Go p e below s kc ks Q (T.setTop (mkF m q Ls (.long v :: st)))) : own_Go p e below s kc ks Q (T.setTop (mkF m pc Ls st)) := by
  subst hq; exact own_via (fun t => XT.lloadN X.here hx rfl hd hl) K
theorem own_lload (X : Stand p l e R s m args below meth c T locs cells slots) (hx : p.tables.exec = Jvm.exec) {k : Nat} {v : Int64} (hd : decode c.code pc = .ok (.lload k, 2)) (hq : pc + 2 = q) (hl : Ls[k]? = some (.val (.long v))) (K : own_Go p e below s kc ks Q (T.setTop (mkF m q Ls (.long v :: st)))) : own_Go p e below s kc ks Q (T.setTop (mkF m pc Ls st)) := by
  subst hq; exact own_via (fun t => XT.lload X.here hx rfl hd hl) K
theorem own_aloadN (X : Stand p l e R s m args below meth c T locs cells slots) (hx : p.tables.exec = Jvm.exec) {k : Fin 4} {v : Value} (hd : decode c.code pc = .ok (.aload_n k, 1)) (hq : pc + 1 = q) (hl : Ls[k.val]? = some (.val v)) (hv : v.isRef = true) (K : own_Go p e below s kc ks Q (T.setTop (mkF m q Ls (v :: st)))) : own_Go p e below s kc ks Q (T.setTop (mkF m pc Ls st)) := by
  subst hq; exact own_via (fun t => XS.aloadN X.here hx rfl hd hl hv) K
theorem own_aload (X : Stand p l e R s m args below meth c T locs cells slots) (hx : p.tables.exec = Jvm.exec) {k : Nat} {v : Value} (hd : decode c.code pc = .ok (.aload k, 2)) (hq : pc + 2 = q) (hl : Ls[k]? = some (.val v)) (hv : v.isRef = true) (K : own_Go p e below s kc ks Q (T.setTop (mkF m q Ls (v :: st)))) : own_Go p e below s kc ks Q (T.setTop (mkF m pc Ls st)) := by
  subst hq; exact own_via (fun t => XS.aload X.here hx rfl hd hl hv) K
theorem own_istoreN (X : Stand p l e R s m args below meth c T locs cells slots) (hx : p.tables.exec = Jvm.exec) {k : Fin 4} {v : Int32} (hd : decode c.code pc = .ok (.istore_n k, 1)) (hq : pc + 1 = q) (hl : storeLocals Ls k.val (.int v) = some L') (K : own_Go p e below s kc ks Q (T.setTop (mkF m q L' st))) : own_Go p e below s kc ks Q (T.setTop (mkF m pc Ls (.int v :: st))) := by
  subst hq; exact own_via (fun t => XS.istoreN X.here hx rfl hd rfl hl) K
theorem own_istore (X : Stand p l e R s m args below meth c T locs cells slots) (hx : p.tables.exec = Jvm.exec) {k : Nat} {v : Int32} (hd : decode c.code pc = .ok (.istore k, 2)) (hq : pc + 2 = q) (hl : storeLocals Ls k (.int v) = some L') (K : own_Go p e below s kc ks Q (T.setTop (mkF m q L' st))) : own_Go p e below s kc ks Q (T.setTop (mkF m pc Ls (.int v :: st))) := by
  subst hq; exact own_via (fun t => XS.istore X.here hx rfl hd rfl hl) K
theorem own_lstoreN (X : Stand p l e R s m args below meth c T locs cells slots) (hx : p.tables.exec = Jvm.exec) {k : Fin 4} {v : Int64} (hd : decode c.code pc = .ok (.lstore_n k, 1)) (hq : pc + 1 = q) (hl : storeLocals Ls k.val (.long v) = some L') (K : own_Go p e below s kc ks Q (T.setTop (mkF m q L' st))) : own_Go p e below s kc ks Q (T.setTop (mkF m pc Ls (.long v :: st))) := by
  subst hq; exact own_via (fun t => XT.lstoreN X.here hx rfl hd rfl hl) K
theorem own_lstore (X : Stand p l e R s m args below meth c T locs cells slots) (hx : p.tables.exec = Jvm.exec) {k : Nat} {v : Int64} (hd : decode c.code pc = .ok (.lstore k, 2)) (hq : pc + 2 = q) (hl : storeLocals Ls k (.long v) = some L') (K : own_Go p e below s kc ks Q (T.setTop (mkF m q L' st))) : own_Go p e below s kc ks Q (T.setTop (mkF m pc Ls (.long v :: st))) := by
  subst hq; exact own_via (fun t => XT.lstore X.here hx rfl hd rfl hl) K
theorem own_astoreN (X : Stand p l e R s m args below meth c T locs cells slots) (hx : p.tables.exec = Jvm.exec) {k : Fin 4} {v : Value} (hd : decode c.code pc = .ok (.astore_n k, 1)) (hq : pc + 1 = q) (hv : v.isRef = true) (hl : storeLocals Ls k.val v = some L') (K : own_Go p e below s kc ks Q (T.setTop (mkF m q L' st))) : own_Go p e below s kc ks Q (T.setTop (mkF m pc Ls (v :: st))) := by
  subst hq; exact own_via (fun t => XS.astoreN X.here hx rfl hd rfl hv hl) K
theorem own_astore (X : Stand p l e R s m args below meth c T locs cells slots) (hx : p.tables.exec = Jvm.exec) {k : Nat} {v : Value} (hd : decode c.code pc = .ok (.astore k, 2)) (hq : pc + 2 = q) (hv : v.isRef = true) (hl : storeLocals Ls k v = some L') (K : own_Go p e below s kc ks Q (T.setTop (mkF m q L' st))) : own_Go p e below s kc ks Q (T.setTop (mkF m pc Ls (v :: st))) := by
  subst hq; exact own_via (fun t => XS.astore X.here hx rfl hd rfl hv hl) K
theorem own_iinc (X : Stand p l e R s m args below meth c T locs cells slots) (hx : p.tables.exec = Jvm.exec) {k : Nat} {i : Int} {x : Int32} (v : Int32) (hd : decode c.code pc = .ok (.iinc k i, 3)) (hq : pc + 3 = q) (hv : Int32.ofInt i = v) (hl : Ls[k]? = some (.val (.int x))) (hl' : storeLocals Ls k (.int (x + v)) = some L') (K : own_Go p e below s kc ks Q (T.setTop (mkF m q L' st))) : own_Go p e below s kc ks Q (T.setTop (mkF m pc Ls st)) := by
  subst hq; exact own_via (fun t => XT.iincV (v := v) X.here hx rfl hd hv hl hl') K
theorem own_dup (X : Stand p l e R s m args below meth c T locs cells slots) (hx : p.tables.exec = Jvm.exec) {v : Value} (hd : decode c.code pc = .ok (.dup, 1)) (hq : pc + 1 = q) (hc : v.category = 1) (K : own_Go p e below s kc ks Q (T.setTop (mkF m q Ls (v :: v :: st)))) : own_Go p e below s kc ks Q (T.setTop (mkF m pc Ls (v :: st))) := by
  subst hq; exact own_via (fun t => XS.dup X.here hx rfl hd rfl hc) K
theorem own_pop (X : Stand p l e R s m args below meth c T locs cells slots) (hx : p.tables.exec = Jvm.exec) {v : Value} (hd : decode c.code pc = .ok (.pop, 1)) (hq : pc + 1 = q) (hc : v.category = 1) (K : own_Go p e below s kc ks Q (T.setTop (mkF m q Ls st))) : own_Go p e below s kc ks Q (T.setTop (mkF m pc Ls (v :: st))) := by
  subst hq; exact own_via (fun t => XT.pop X.here hx rfl hd rfl hc) K
theorem own_dupX1 (X : Stand p l e R s m args below meth c T locs cells slots) (hx : p.tables.exec = Jvm.exec) {v w : Value} (hd : decode c.code pc = .ok (.dup_x1, 1)) (hq : pc + 1 = q) (hc : v.category = 1) (hc' : w.category = 1) (K : own_Go p e below s kc ks Q (T.setTop (mkF m q Ls (v :: w :: v :: st)))) : own_Go p e below s kc ks Q (T.setTop (mkF m pc Ls (v :: w :: st))) := by
  subst hq; exact own_via (fun t => XT.dupX1 X.here hx rfl hd rfl hc hc') K
theorem own_dup2 (X : Stand p l e R s m args below meth c T locs cells slots) (hx : p.tables.exec = Jvm.exec) {v w : Value} (hd : decode c.code pc = .ok (.dup2, 1)) (hq : pc + 1 = q) (hc : v.category = 1) (hc' : w.category = 1) (K : own_Go p e below s kc ks Q (T.setTop (mkF m q Ls (v :: w :: v :: w :: st)))) : own_Go p e below s kc ks Q (T.setTop (mkF m pc Ls (v :: w :: st))) := by
  subst hq; exact own_via (fun t => XT.dup2 X.here hx rfl hd rfl hc hc') K
theorem own_goto (X : Stand p l e R s m args below meth c T locs cells slots) (hx : p.tables.exec = Jvm.exec) {o : Int} (hd : decode c.code pc = .ok (.goto o, 3)) (ho : 0 ≤ (pc : Int) + o) (hp : ((pc : Int) + o).toNat = q) (K : own_Go p e below s kc ks Q (T.setTop (mkF m q Ls st))) : own_Go p e below s kc ks Q (T.setTop (mkF m pc Ls st)) := by
  exact own_via (fun t => XS.goto X.here hx rfl (pc0 := pc) (pc' := q) rfl hd ho hp) K
theorem own_ldc (X : Stand p l e R s m args below meth c T locs cells slots) (hx : p.tables.exec = Jvm.exec) {Z : State} {a0 : Array Value} (hZ : Z.Warmed39 s.vm) {own : String} {i : Nat} {v : Int32} (hown : s.vm.findClass own = some m.cls) (w : (Cond.constant own i v).before a0 Z = true) (hd : decode c.code pc = .ok (.ldc i, 2)) (hq : pc + 2 = q) (K : own_Go p e below s kc ks Q (T.setTop (mkF m q Ls (.int v :: st)))) : own_Go p e below s kc ks Q (T.setTop (mkF m pc Ls st)) := by
  subst hq; exact own_via (fun t => X.ldcI hx hown (mv hZ w) rfl hd) K
theorem own_ldcW (X : Stand p l e R s m args below meth c T locs cells slots) (hx : p.tables.exec = Jvm.exec) {Z : State} {a0 : Array Value} (hZ : Z.Warmed39 s.vm) {own : String} {i : Nat} {v : Int32} (hown : s.vm.findClass own = some m.cls) (w : (Cond.constant own i v).before a0 Z = true) (hd : decode c.code pc = .ok (.ldc_w i, 3)) (hq : pc + 3 = q) (K : own_Go p e below s kc ks Q (T.setTop (mkF m q Ls (.int v :: st)))) : own_Go p e below s kc ks Q (T.setTop (mkF m pc Ls st)) := by
  subst hq; exact own_via (fun t => X.ldcWI hx hown (mv hZ w) rfl hd) K
theorem own_ldc2 (X : Stand p l e R s m args below meth c T locs cells slots) (hx : p.tables.exec = Jvm.exec) {Z : State} {a0 : Array Value} (hZ : Z.Warmed39 s.vm) {own : String} {i : Nat} {v : Int64} (hown : s.vm.findClass own = some m.cls) (w : (Cond.constantLong own i v).before a0 Z = true) (hd : decode c.code pc = .ok (.ldc2_w i, 3)) (hq : pc + 3 = q) (K : own_Go p e below s kc ks Q (T.setTop (mkF m q Ls (.long v :: st)))) : own_Go p e below s kc ks Q (T.setTop (mkF m pc Ls st)) := by
  subst hq; exact own_via (fun t => X.ldc2J hx hown (mv hZ w) rfl hd) K
def own_pos : ClassFile.Cond → Bool | .eq => true | .lt => true | .gt => true | _ => false
def own_base {α : Type} [LT α] : ClassFile.Cond → α → α → Prop | .eq, x, y => x = y | .ne, x, y => x = y | .lt, x, y => x < y | .ge, x, y => x < y | .gt, x, y => y < x | .le, x, y => y < x
theorem own_ii {cd : ClassFile.Cond} {x y : Int32} : (own_base cd x y → if_icmp.holds cd x y = own_pos cd) ∧ (¬ own_base cd x y → if_icmp.holds cd x y = !own_pos cd) := by
  cases cd <;> simp only [own_base, own_pos, Bool.not_true, Bool.not_false]
  · exact ⟨XT.ii_eq_t, XT.ii_eq_f⟩
  · exact ⟨XT.ii_ne_f, XT.ii_ne_t⟩
  · exact ⟨XT.ii_lt_t, XT.ii_lt_f⟩
  · exact ⟨XT.ii_ge_f, XT.ii_ge_t⟩
  · exact ⟨XT.ii_gt_t, XT.ii_gt_f⟩
  · exact ⟨XT.ii_le_f, XT.ii_le_t⟩
theorem own_ll {cd : ClassFile.Cond} {x y : Int64} : (own_base cd x y → ifCond.holds cd (XT.cmpL x y) = own_pos cd) ∧ (¬ own_base cd x y → ifCond.holds cd (XT.cmpL x y) = !own_pos cd) := by
  cases cd <;> simp only [own_base, own_pos, Bool.not_true, Bool.not_false]
  · exact ⟨XT.ll_eq_t, XT.ll_eq_f⟩
  · exact ⟨XT.ll_ne_f, XT.ll_ne_t⟩
  · exact ⟨XT.ll_lt_t, XT.ll_lt_f⟩
  · exact ⟨XT.ll_ge_f, XT.ll_ge_t⟩
  · exact ⟨XT.ll_gt_t, XT.ll_gt_f⟩
  · exact ⟨XT.ll_le_f, XT.ll_le_t⟩
theorem own_icmpP (X : Stand p l e R s m args below meth c T locs cells slots) (hx : p.tables.exec = Jvm.exec) {x y : Int32} {cd : ClassFile.Cond} {o : Int} {pt : Nat} (hd : decode c.code pc = .ok (.if_icmp cd o, 3)) (ho : 0 ≤ (pc : Int) + o) (hp : ((pc : Int) + o).toNat = pt) (hq : pc + 3 = q) (hs : own_pos cd = true) (K1 : own_base cd x y → own_Go p e below s kc ks Q (T.setTop (mkF m pt Ls st))) (K2 : ¬ own_base cd x y → own_Go p e below s kc ks Q (T.setTop (mkF m q Ls st))) : own_Go p e below s kc ks Q (T.setTop (mkF m pc Ls (.int y :: .int x :: st))) := by
  subst hq
  by_cases h : own_base cd x y
  · exact own_via (fun t => XS.icmpYes X.here hx rfl (pc0 := pc) (pc' := pt) rfl hd rfl ((own_ii.1 h).trans hs) ho hp) (K1 h)
  · exact own_via (fun t => XS.icmpNo X.here hx rfl hd rfl ((own_ii.2 h).trans (by rw [hs]; rfl))) (K2 h)
theorem own_icmpM (X : Stand p l e R s m args below meth c T locs cells slots) (hx : p.tables.exec = Jvm.exec) {x y : Int32} {cd : ClassFile.Cond} {o : Int} {pt : Nat} (hd : decode c.code pc = .ok (.if_icmp cd o, 3)) (ho : 0 ≤ (pc : Int) + o) (hp : ((pc : Int) + o).toNat = pt) (hq : pc + 3 = q) (hs : own_pos cd = false) (K1 : ¬ own_base cd x y → own_Go p e below s kc ks Q (T.setTop (mkF m pt Ls st))) (K2 : own_base cd x y → own_Go p e below s kc ks Q (T.setTop (mkF m q Ls st))) : own_Go p e below s kc ks Q (T.setTop (mkF m pc Ls (.int y :: .int x :: st))) := by
  subst hq
  by_cases h : own_base cd x y
  · exact own_via (fun t => XS.icmpNo X.here hx rfl hd rfl ((own_ii.1 h).trans hs)) (K2 h)
  · exact own_via (fun t => XS.icmpYes X.here hx rfl (pc0 := pc) (pc' := pt) rfl hd rfl ((own_ii.2 h).trans (by rw [hs]; rfl)) ho hp) (K1 h)
theorem own_if0P (X : Stand p l e R s m args below meth c T locs cells slots) (hx : p.tables.exec = Jvm.exec) {x : Int32} {cd : ClassFile.Cond} {o : Int} {pt : Nat} (hd : decode c.code pc = .ok (.ifCond cd o, 3)) (ho : 0 ≤ (pc : Int) + o) (hp : ((pc : Int) + o).toNat = pt) (hq : pc + 3 = q) (hs : own_pos cd = true) (K1 : own_base cd x (0 : Int32) → own_Go p e below s kc ks Q (T.setTop (mkF m pt Ls st))) (K2 : ¬ own_base cd x (0 : Int32) → own_Go p e below s kc ks Q (T.setTop (mkF m q Ls st))) : own_Go p e below s kc ks Q (T.setTop (mkF m pc Ls (.int x :: st))) := by
  subst hq
  by_cases h : own_base cd x (0 : Int32)
  · exact own_via (fun t => XS.ifYes X.here hx rfl (pc0 := pc) (pc' := pt) rfl hd rfl ((if0 cd x).trans ((own_ii (y := 0).1 h).trans hs)) ho hp) (K1 h)
  · exact own_via (fun t => XS.ifNo X.here hx rfl hd rfl ((if0 cd x).trans ((own_ii (y := 0).2 h).trans (by rw [hs]; rfl)))) (K2 h)
theorem own_if0M (X : Stand p l e R s m args below meth c T locs cells slots) (hx : p.tables.exec = Jvm.exec) {x : Int32} {cd : ClassFile.Cond} {o : Int} {pt : Nat} (hd : decode c.code pc = .ok (.ifCond cd o, 3)) (ho : 0 ≤ (pc : Int) + o) (hp : ((pc : Int) + o).toNat = pt) (hq : pc + 3 = q) (hs : own_pos cd = false) (K1 : ¬ own_base cd x (0 : Int32) → own_Go p e below s kc ks Q (T.setTop (mkF m pt Ls st))) (K2 : own_base cd x (0 : Int32) → own_Go p e below s kc ks Q (T.setTop (mkF m q Ls st))) : own_Go p e below s kc ks Q (T.setTop (mkF m pc Ls (.int x :: st))) := by
  subst hq
  by_cases h : own_base cd x (0 : Int32)
  · exact own_via (fun t => XS.ifNo X.here hx rfl hd rfl ((if0 cd x).trans ((own_ii (y := 0).1 h).trans hs))) (K2 h)
  · exact own_via (fun t => XS.ifYes X.here hx rfl (pc0 := pc) (pc' := pt) rfl hd rfl ((if0 cd x).trans ((own_ii (y := 0).2 h).trans (by rw [hs]; rfl))) ho hp) (K1 h)
theorem own_ifLP (X : Stand p l e R s m args below meth c T locs cells slots) (hx : p.tables.exec = Jvm.exec) {x y : Int64} {cd : ClassFile.Cond} {o : Int} {pt : Nat} (hd : decode c.code pc = .ok (.ifCond cd o, 3)) (ho : 0 ≤ (pc : Int) + o) (hp : ((pc : Int) + o).toNat = pt) (hq : pc + 3 = q) (hs : own_pos cd = true) (K1 : own_base cd x y → own_Go p e below s kc ks Q (T.setTop (mkF m pt Ls st))) (K2 : ¬ own_base cd x y → own_Go p e below s kc ks Q (T.setTop (mkF m q Ls st))) : own_Go p e below s kc ks Q (T.setTop (mkF m pc Ls (.int (XT.cmpL x y) :: st))) := by
  subst hq
  by_cases h : own_base cd x y
  · exact own_via (fun t => XS.ifYes X.here hx rfl (pc0 := pc) (pc' := pt) rfl hd rfl ((own_ll.1 h).trans hs) ho hp) (K1 h)
  · exact own_via (fun t => XS.ifNo X.here hx rfl hd rfl ((own_ll.2 h).trans (by rw [hs]; rfl))) (K2 h)
theorem own_ifLM (X : Stand p l e R s m args below meth c T locs cells slots) (hx : p.tables.exec = Jvm.exec) {x y : Int64} {cd : ClassFile.Cond} {o : Int} {pt : Nat} (hd : decode c.code pc = .ok (.ifCond cd o, 3)) (ho : 0 ≤ (pc : Int) + o) (hp : ((pc : Int) + o).toNat = pt) (hq : pc + 3 = q) (hs : own_pos cd = false) (K1 : ¬ own_base cd x y → own_Go p e below s kc ks Q (T.setTop (mkF m pt Ls st))) (K2 : own_base cd x y → own_Go p e below s kc ks Q (T.setTop (mkF m q Ls st))) : own_Go p e below s kc ks Q (T.setTop (mkF m pc Ls (.int (XT.cmpL x y) :: st))) := by
  subst hq
  by_cases h : own_base cd x y
  · exact own_via (fun t => XS.ifNo X.here hx rfl hd rfl ((own_ll.1 h).trans hs)) (K2 h)
  · exact own_via (fun t => XS.ifYes X.here hx rfl (pc0 := pc) (pc' := pt) rfl hd rfl ((own_ll.2 h).trans (by rw [hs]; rfl)) ho hp) (K1 h)
theorem own_acmp (X : Stand p l e R s m args below meth c T locs cells slots) (hx : p.tables.exec = Jvm.exec) {cd : ACond} {v w : Value} {o : Int} {same : Bool} (hv : v.isRef = true) (hw : w.isRef = true) (hd : decode c.code pc = .ok (.if_acmp cd o, 3)) (hs : decide (v = w) = same) (ho : 0 ≤ (pc : Int) + o) (hp : q = if acV cd same = true then ((pc : Int) + o).toNat else pc + 3) (K : own_Go p e below s kc ks Q (T.setTop (mkF m q Ls st))) : own_Go p e below s kc ks Q (T.setTop (mkF m pc Ls (w :: v :: st))) := by
  exact own_via (fun t => acmp X hx rfl hv hw (pc0 := pc) rfl hd rfl hs ho hp) K
theorem own_nullY (X : Stand p l e R s m args below meth c T locs cells slots) (hx : p.tables.exec = Jvm.exec) {o : Int} (hd : decode c.code pc = .ok (.ifnull o, 3)) (ho : 0 ≤ (pc : Int) + o) (hp : ((pc : Int) + o).toNat = q) (K : own_Go p e below s kc ks Q (T.setTop (mkF m q Ls st))) : own_Go p e below s kc ks Q (T.setTop (mkF m pc Ls (.null :: st))) := by
  exact own_via (fun t => XS.ifnullYes X.here hx rfl (pc0 := pc) (pc' := q) rfl hd rfl ho hp) K
theorem own_nullN (X : Stand p l e R s m args below meth c T locs cells slots) (hx : p.tables.exec = Jvm.exec) {o : Int} {a : Addr} (hd : decode c.code pc = .ok (.ifnull o, 3)) (hq : pc + 3 = q) (K : own_Go p e below s kc ks Q (T.setTop (mkF m q Ls st))) : own_Go p e below s kc ks Q (T.setTop (mkF m pc Ls (.ref a :: st))) := by
  subst hq; exact own_via (fun t => XS.ifnullNo X.here hx rfl hd rfl) K
theorem own_nonnullY (X : Stand p l e R s m args below meth c T locs cells slots) (hx : p.tables.exec = Jvm.exec) {o : Int} {a : Addr} (hd : decode c.code pc = .ok (.ifnonnull o, 3)) (ho : 0 ≤ (pc : Int) + o) (hp : ((pc : Int) + o).toNat = q) (K : own_Go p e below s kc ks Q (T.setTop (mkF m q Ls st))) : own_Go p e below s kc ks Q (T.setTop (mkF m pc Ls (.ref a :: st))) := by
  exact own_via (fun t => XT.ifnonnullYes X.here hx rfl (pc0 := pc) (pc' := q) rfl hd rfl ho hp) K
theorem own_nonnullN (X : Stand p l e R s m args below meth c T locs cells slots) (hx : p.tables.exec = Jvm.exec) {o : Int} (hd : decode c.code pc = .ok (.ifnonnull o, 3)) (hq : pc + 3 = q) (K : own_Go p e below s kc ks Q (T.setTop (mkF m q Ls st))) : own_Go p e below s kc ks Q (T.setTop (mkF m pc Ls (.null :: st))) := by
  subst hq; exact own_via (fun t => XT.ifnonnullNo X.here hx rfl hd rfl) K
theorem own_retN (X : Stand p l e R s m args below meth c T locs cells slots) (hx : p.tables.exec = Jvm.exec) (hlk : meth.locks = false) {rest : List Value} {z : Int32} {t : FieldType} (ht : t = .boolean ∨ t = .byte ∨ t = .char ∨ t = .short) (hret : meth.sig.returnType = some t) (hd : decode c.code pc = .ok (.ireturn, 1)) (hqq : Q (some (.int (nar t z))) T.heap locs) (hc : cells ≤ kc) (hs : slots ≤ ks)  : own_Go p e below s kc ks Q (T.setTop (mkF m pc Ls (.int z :: rest))) := by
  obtain ⟨fs, hr, hrun, hended, hW, hsame⟩ := X.leave (v := (some (.int (nar t z)))) (fun h => by rw [hret] at h; cases h) hlk
  exact ⟨_, _, retN X hx hret ht hd hr, hrun, hended, _, _, rfl, hqq, ⟨_, rfl⟩, hW, hsame.mono hc hs⟩
theorem own_retI (X : Stand p l e R s m args below meth c T locs cells slots) (hx : p.tables.exec = Jvm.exec) (hlk : meth.locks = false) {rest : List Value} {z : Int32} (hret : meth.sig.returnType = some .int) (hd : decode c.code pc = .ok (.ireturn, 1)) (hqq : Q (some (.int z)) T.heap locs) (hc : cells ≤ kc) (hs : slots ≤ ks)  : own_Go p e below s kc ks Q (T.setTop (mkF m pc Ls (.int z :: rest))) := by
  obtain ⟨fs, hr, hrun, hended, hW, hsame⟩ := X.leave (v := (some (.int z))) (fun h => by rw [hret] at h; cases h) hlk
  exact ⟨_, _, retOut X hx hret rfl (Or.inl ⟨rfl, Or.inl rfl, z, rfl⟩) hd hr, hrun, hended, _, _, rfl, hqq, ⟨_, rfl⟩, hW, hsame.mono hc hs⟩
theorem own_retJ (X : Stand p l e R s m args below meth c T locs cells slots) (hx : p.tables.exec = Jvm.exec) (hlk : meth.locks = false) {rest : List Value} {z : Int64} (hret : meth.sig.returnType = some .long) (hd : decode c.code pc = .ok (.lreturn, 1)) (hqq : Q (some (.long z)) T.heap locs) (hc : cells ≤ kc) (hs : slots ≤ ks)  : own_Go p e below s kc ks Q (T.setTop (mkF m pc Ls (.long z :: rest))) := by
  obtain ⟨fs, hr, hrun, hended, hW, hsame⟩ := X.leave (v := (some (.long z))) (fun h => by rw [hret] at h; cases h) hlk
  exact ⟨_, _, retOut X hx hret rfl (Or.inr (Or.inl ⟨rfl, rfl, z, rfl⟩)) hd hr, hrun, hended, _, _, rfl, hqq, ⟨_, rfl⟩, hW, hsame.mono hc hs⟩
theorem own_retA (X : Stand p l e R s m args below meth c T locs cells slots) (hx : p.tables.exec = Jvm.exec) (hlk : meth.locks = false) {rest : List Value} {w : Value} {t : FieldType} (hw : w.isRef = true) (ht : t.isReference = true) (hn : narrow t w = w) (hret : meth.sig.returnType = some t) (hd : decode c.code pc = .ok (.areturn, 1)) (hqq : Q (some w) T.heap locs) (hc : cells ≤ kc) (hs : slots ≤ ks)  : own_Go p e below s kc ks Q (T.setTop (mkF m pc Ls (w :: rest))) := by
  obtain ⟨fs, hr, hrun, hended, hW, hsame⟩ := X.leave (v := (some w)) (fun h => by rw [hret] at h; cases h) hlk
  exact ⟨_, _, retOut X hx hret hn (Or.inr (Or.inr (Or.inr (Or.inr ⟨rfl, ht, hw⟩)))) hd hr, hrun, hended, _, _, rfl, hqq, ⟨_, rfl⟩, hW, hsame.mono hc hs⟩
theorem own_retV (X : Stand p l e R s m args below meth c T locs cells slots) (hx : p.tables.exec = Jvm.exec) (hlk : meth.locks = false) {rest : List Value} (hret : meth.sig.returnType = none) (hd : decode c.code pc = .ok (.return_, 1)) (hqq : Q none T.heap locs) (hc : cells ≤ kc) (hs : slots ≤ ks)  : own_Go p e below s kc ks Q (T.setTop (mkF m pc Ls [])) := by
  obtain ⟨fs, hr, hrun, hended, hW, hsame⟩ := X.leave (v := none) (fun _ => rfl) hlk
  exact ⟨_, _, X.returnOut hx hret hd hr, hrun, hended, _, _, rfl, hqq, ⟨_, rfl⟩, hW, hsame.mono hc hs⟩
theorem own_callS (X : Stand p l e R s m args below meth c T locs cells slots) (hx : p.tables.exec = Jvm.exec) {Z : State} {a0 : Array Value} {h : Heap} {own : String} {index : Nat} {y : MethodName} {bytes : ByteArray} {maxL : Nat} {ret : Option FieldType} {rm : Room} {W : Nat} {argsL : List Value} {Qc : Option Value → Heap → List Loc → Prop} {ps : List FieldType} {r : Option FieldType} {st0 : List Value} (hZ : Z.Warmed39 s.vm) (hown : s.vm.findClass own = some m.cls) (w1 : (Cond.methodLink own index y).before a0 Z = true) (w2 : (Cond.static y).before a0 Z = true) (w3 : (Cond.initialized y.cls).before a0 Z = true) (w4 : (Cond.code y bytes maxL ret).before a0 Z = true) (hy : y.cls ≠ "java/lang/invoke/MethodHandle" ∧ y.cls ≠ "java/lang/invoke/VarHandle") (hM : MetFree l y (head1 [Cond.code y bytes maxL ret] rm) (fun aa U => aa = argsL.toArray ∧ Z.Warmed39 U.vm ∧ U.heap = h) (fun _ _ _ _ _ => True) (fun _ U o U' => ∃ v L, o = .returned v ∧ Qc v U'.heap L ∧ FrameEnd U o U' L rm.cells rm.slots)) (hpd : parseMethodDescriptor y.desc = some ⟨ps, r⟩) (hlen : argsL.length = ps.length) (eT : T.heap = h) (hml : Ls.size = c.maxLocals) (hst : st0 = argsL.reverse ++ st) (hW : (st.map fun v => v.category).sum ≤ W) (hf : rm.frames + 1 ≤ R.frames) (hl : W + (maxL + 11) + rm.locals ≤ R.locals) (hc : cells + rm.cells ≤ R.cells) (hs : slots + rm.slots ≤ R.slots) (hd : decode c.code pc = .ok (.invokestatic index, 3)) (hq : pc + 3 = q) (K : ∀ v T' L, Stand p l e R s m args below meth c T' (locs ++ L) (cells + rm.cells) (slots + rm.slots) → Qc v T'.heap L → own_Go p e below s kc ks Q (T'.setTop (mkF m q Ls (v.toList ++ st)))) : own_Go p e below s kc ks Q (T.setTop (mkF m pc Ls st0)) := by
  subst hq hst
  obtain ⟨v, _, ⟨T', L', k', n'⟩, -, X', ⟨Lc, hQ, l', y', z'⟩, st'⟩ := Jvm.LawKit.callS X hx hown (mvT hZ w1) (mvT hZ w2) (mvT hZ w3) (mvT hZ w4) hy (backOf (W := W) hM hZ w4 w3 hf hl) (g := mkF m pc Ls (argsL.reverse ++ st)) rfl hml (argsL := argsL) (rest := st) (lenOf hpd hlen) rfl (by show 2 * 0 + _ ≤ _; omega) hd (fun _ _ => ⟨rfl, eT, hc, hs⟩)
  dsimp only [Pt.U, Pt.locs, Pt.cells, Pt.slots] at X' l' y' z' st' hQ
  subst l' y' z'
  exact own_via (fun t => st' t) (K v T' Lc X' hQ)
theorem own_callC (X : Stand p l e R s m args below meth c T locs cells slots) (hx : p.tables.exec = Jvm.exec) {a : Addr} {Z : State} {a0 : Array Value} {h : Heap} {own : String} {index : Nat} {y : MethodName} {bytes : ByteArray} {maxL : Nat} {rm : Room} {W : Nat} {argsL : List Value} {Qc : Option Value → Heap → List Loc → Prop} {ps : List FieldType} {r : Option FieldType} {st0 : List Value} (hZ : Z.Warmed39 s.vm) (hown : s.vm.findClass own = some m.cls) (hy1 : y.name = "<init>") (w1 : (Cond.methodLink own index y).before a0 Z = true) (w2 : (Cond.instanceMethod y).before a0 Z = true) (w3 : (Cond.initialized y.cls).before a0 Z = true) (w4 : (Cond.code y bytes maxL none).before a0 Z = true) (hy : y.cls ≠ "java/lang/invoke/MethodHandle" ∧ y.cls ≠ "java/lang/invoke/VarHandle") (hM : MetFree l y (head1 [Cond.code y bytes maxL none] rm) (fun aa U => aa = (.ref a :: argsL).toArray ∧ Z.Warmed39 U.vm ∧ U.heap = h) (fun _ _ _ _ _ => True) (fun _ U o U' => ∃ v L, o = .returned v ∧ Qc v U'.heap L ∧ FrameEnd U o U' L rm.cells rm.slots)) (hpd : parseMethodDescriptor y.desc = some ⟨ps, r⟩) (hlen : argsL.length = ps.length) (eT : T.heap = h) (hml : Ls.size = c.maxLocals) (hst : st0 = argsL.reverse ++ .ref a :: st) (hW : (st.map fun v => v.category).sum ≤ W) (hf : rm.frames + 1 ≤ R.frames) (hl : W + (maxL + 11) + rm.locals ≤ R.locals) (hc : cells + rm.cells ≤ R.cells) (hs : slots + rm.slots ≤ R.slots) (hd : decode c.code pc = .ok (.invokespecial index, 3)) (hq : pc + 3 = q) (K : ∀ v T' L, Stand p l e R s m args below meth c T' (locs ++ L) (cells + rm.cells) (slots + rm.slots) → Qc v T'.heap L → own_Go p e below s kc ks Q (T'.setTop (mkF m q Ls (v.toList ++ st)))) : own_Go p e below s kc ks Q (T.setTop (mkF m pc Ls st0)) := by
  subst hq hst
  obtain ⟨v, _, ⟨T', L', k', n'⟩, -, X', ⟨Lc, hQ, l', y', z'⟩, st'⟩ := X.specialBack hx hy1 hown (mvT hZ w1) (mvT hZ w2) (mvT hZ w4) hy (backOf (W := W) hM hZ w4 w3 hf hl) (g := mkF m pc Ls (argsL.reverse ++ .ref a :: st)) rfl hml (Steps.refl _) (a := a) (argsL := argsL) (rest := st) (lenOf hpd hlen) rfl (by show 2 * 0 + _ ≤ _; omega) hd (fun _ _ => ⟨rfl, eT, hc, hs⟩)
  dsimp only [Pt.U, Pt.locs, Pt.cells, Pt.slots] at X' l' y' z' st' hQ
  subst l' y' z'
  exact own_via (fun t => st'.trans) (K v T' Lc X' hQ)
theorem own_callV (X : Stand p l e R s m args below meth c T locs cells slots) (hx : p.tables.exec = Jvm.exec) {a : Addr} {C : String} {z : MethodName} {Z : State} {a0 : Array Value} {h : Heap} {own : String} {index : Nat} {y : MethodName} {bytes : ByteArray} {maxL : Nat} {ret : Option FieldType} {rm : Room} {W : Nat} {argsL : List Value} {Qc : Option Value → Heap → List Loc → Prop} {ps : List FieldType} {r : Option FieldType} {st0 : List Value} (hZ : Z.Warmed39 s.vm) (hown : s.vm.findClass own = some m.cls) (w1 : (Cond.methodLink own index y).before a0 Z = true) (w2 : (Cond.declares y).before a0 Z = true) (w5 : (Cond.selects y.cls y y).before a0 Z = true) (w6 : (Cond.selects C y z).before a0 Z = true) (w7 : (Cond.instanceMethod z).before a0 Z = true) (w3 : (Cond.initialized z.cls).before a0 Z = true) (w4 : (Cond.code z bytes maxL ret).before a0 Z = true) (E : Exa Z h a C) (hy : y.cls ≠ "java/lang/invoke/MethodHandle" ∧ y.cls ≠ "java/lang/invoke/VarHandle") (hM : MetFree l z (head1 [Cond.code z bytes maxL ret] rm) (fun aa U => aa = (.ref a :: argsL).toArray ∧ Z.Warmed39 U.vm ∧ U.heap = h) (fun _ _ _ _ _ => True) (fun _ U o U' => ∃ v L, o = .returned v ∧ Qc v U'.heap L ∧ FrameEnd U o U' L rm.cells rm.slots)) (hpd : parseMethodDescriptor y.desc = some ⟨ps, r⟩) (hlen : argsL.length = ps.length) (eT : T.heap = h) (hml : Ls.size = c.maxLocals) (hst : st0 = argsL.reverse ++ .ref a :: st) (hW : (st.map fun v => v.category).sum ≤ W) (hf : rm.frames + 1 ≤ R.frames) (hl : W + (maxL + 11) + rm.locals ≤ R.locals) (hc : cells + rm.cells ≤ R.cells) (hs : slots + rm.slots ≤ R.slots) (hd : decode c.code pc = .ok (.invokevirtual index, 3)) (hq : pc + 3 = q) (K : ∀ v T' L, Stand p l e R s m args below meth c T' (locs ++ L) (cells + rm.cells) (slots + rm.slots) → Qc v T'.heap L → own_Go p e below s kc ks Q (T'.setTop (mkF m q Ls (v.toList ++ st)))) : own_Go p e below s kc ks Q (T.setTop (mkF m pc Ls st0)) := by
  subst hq hst
  obtain ⟨cq, kq, qa, qb, qc⟩ := isOf hZ eT E
  obtain ⟨v, _, ⟨T', L', k', n'⟩, -, X', ⟨Lc, hQ, l', y', z'⟩, st'⟩ := X.virtualBack hx (y := y) (z := z) hown (mvT hZ w1) (mvT hZ w2) (notFace_of_selects (args := #[]) (mvT hZ w5)) (mvT hZ w6) (mvT hZ w7) hy (backOf (W := W) hM hZ w4 w3 hf hl) qa qc (g := mkF m pc Ls (argsL.reverse ++ .ref a :: st)) rfl hml (Steps.refl _) (argsL := argsL) (rest := st) (lenOf hpd hlen) rfl (by show 2 * 0 + _ ≤ _; omega) hd (fun _ _ => ⟨rfl, eT, hc, hs⟩)
  dsimp only [Pt.U, Pt.locs, Pt.cells, Pt.slots] at X' l' y' z' st' hQ
  subst l' y' z'
  exact own_via (fun t => st'.trans) (K v T' Lc X' hQ)
theorem own_new (X : Stand p l e R s m args below meth c T locs cells slots) (hx : p.tables.exec = Jvm.exec) {Z : State} {a0 : Array Value} {h : Heap} (hZ : Z.Warmed39 s.vm) {own : String} {i : Nat} (hown : s.vm.findClass own = some m.cls) {C : String} {n : Nat} (w : (Cond.classLink own i C).before a0 Z = true) (wi : (Cond.instantiable C n).before a0 Z = true) (wz : (Cond.initialized C).before a0 Z = true) (eT : T.heap = h) (hd : decode c.code pc = .ok (.new i, 3)) (hc : cells + 1 ≤ R.cells) (hl : slots + n ≤ R.slots) (hq : pc + 3 = q) (K : ∀ T' h' a, Stand p l e R s m args below meth c T' locs (cells + 1) (slots + n) → T'.heap = h' → a = h.size → Ext h h' → Exa Z h' a C → (∀ {O nm d : String} {ty : FieldType}, Laid Z a0 C O nm d → parseFieldDescriptor d = some ty → Fld Z h' a O nm d (defaultValue ty)) → own_Go p e below s kc ks Q (T'.setTop (mkF m q Ls (.ref a :: st)))) : own_Go p e below s kc ks Q (T.setTop (mkF m pc Ls st)) := by
  subst hq
  obtain ⟨T', h', X', e', E', A', D', -, st'⟩ := newO X hx hZ hown w wi wz eT (g := mkF m pc Ls st) rfl hd hc hl
  exact own_via (fun t => st' t) (K T' h' _ X' e' rfl E' A' D')
theorem own_getF (X : Stand p l e R s m args below meth c T locs cells slots) (hx : p.tables.exec = Jvm.exec) {Z : State} {a0 : Array Value} {h : Heap} (hZ : Z.Warmed39 s.vm) {own : String} {i : Nat} (hown : s.vm.findClass own = some m.cls) {a : Addr} {v : Value} {R0 O n d host : String} (w : (Cond.fieldLink own i R0 n d).before a0 Z = true ∨ (Cond.fieldLinkNest own i R0 n d host).before a0 Z = true) (via : Via Z R0 O n d) (eT : T.heap = h) (F : Fld Z h a O n d v) (hd : decode c.code pc = .ok (.getfield i, 3)) (hq : pc + 3 = q) (K : ∀ T', Stand p l e R s m args below meth c T' locs cells slots → T'.heap = h → own_Go p e below s kc ks Q (T'.setTop (mkF m q Ls (v :: st)))) : own_Go p e below s kc ks Q (T.setTop (mkF m pc Ls (.ref a :: st))) := by
  subst hq
  obtain ⟨T', X', e', st'⟩ := getF X hx hZ hown w via eT F (g := mkF m pc Ls (.ref a :: st)) rfl rfl hd
  exact own_via (fun t => st' t) (K T' X' e')
theorem own_putF (X : Stand p l e R s m args below meth c T locs cells slots) (hx : p.tables.exec = Jvm.exec) {Z : State} {a0 : Array Value} {h : Heap} (hZ : Z.Warmed39 s.vm) {own : String} {i : Nat} (hown : s.vm.findClass own = some m.cls) {a : Addr} {v old : Value} {R0 O n d host C : String} {kk : Nat} {ty : FieldType} (w : (Cond.fieldLink own i R0 n d).before a0 Z = true ∨ (Cond.fieldLinkNest own i R0 n d host).before a0 Z = true) (via : Via Z R0 O n d) (eT : T.heap = h) (F : Fld Z h a O n d old) (E : Exa Z h a C) (L : (Cond.lays C O n d).before a0 Z = true ∨ ((Cond.laysFinal C O n d).before a0 Z = true ∧ own = O ∧ meth.name = "<init>")) (wi : (Cond.instantiable C kk).before a0 Z = true) (hty : parseFieldDescriptor d = some ty) (hn : narrow ty v = v) (hf : fits ty v = true) (hd : decode c.code pc = .ok (.putfield i, 3)) (hq : pc + 3 = q) (K : ∀ T' h', Stand p l e R s m args below meth c T' (locs ++ [⟨a, RoadKit.slotOf Z O n d⟩]) cells slots → T'.heap = h' → Wr h h' a (RoadKit.slotOf Z O n d) v → own_Go p e below s kc ks Q (T'.setTop (mkF m q Ls st))) : own_Go p e below s kc ks Q (T.setTop (mkF m pc Ls (v :: .ref a :: st))) := by
  subst hq
  obtain ⟨T', h', X', e', W', st'⟩ := putF X hx hZ hown w via eT F E L wi hty hn hf (g := mkF m pc Ls (v :: .ref a :: st)) rfl rfl hd
  exact own_via (fun t => st' t) (K T' h' X' e' W')
theorem own_initO (X : Stand p l e R s m args below meth c T locs cells slots) (hx : p.tables.exec = Jvm.exec) {Z : State} {a0 : Array Value} {h : Heap} (hZ : Z.Warmed39 s.vm) {own : String} {i : Nat} (hown : s.vm.findClass own = some m.cls) {a : Addr} {W : Nat} (w1 : (Cond.methodLink own i Lib.objectInit).before a0 Z = true) (w2 : (Cond.instanceMethod Lib.objectInit).before a0 Z = true) (w3 : (Cond.code Lib.objectInit ⟨#[0xb1]⟩ 1 none).before a0 Z = true) (eT : T.heap = h) (hml : Ls.size = c.maxLocals) (hf : 1 ≤ R.frames) (hW : (st.map fun v => v.category).sum ≤ W) (hl : W + 12 ≤ R.locals) (hd : decode c.code pc = .ok (.invokespecial i, 3)) (hq : pc + 3 = q) (K : ∀ T', Stand p l e R s m args below meth c T' locs cells slots → T'.heap = h → own_Go p e below s kc ks Q (T'.setTop (mkF m q Ls st))) : own_Go p e below s kc ks Q (T.setTop (mkF m pc Ls (.ref a :: st))) := by
  subst hq
  obtain ⟨T', X', e', st'⟩ := initO X hx hZ hown w1 w2 w3 eT (g := mkF m pc Ls (.ref a :: st)) rfl hml rfl hd hf (W := W) (by show 2 * 0 + _ ≤ _; omega) hl
  exact own_via (fun t => st' t) (K T' X' e')
theorem own_getS (X : Stand p l e R s m args below meth c T locs cells slots) (hx : p.tables.exec = Jvm.exec) {Z : State} {a0 : Array Value} {h : Heap} (hZ : Z.Warmed39 s.vm) {own : String} {i : Nat} (hown : s.vm.findClass own = some m.cls) {v : Value} {R0 O n d : String} (w : (Cond.fieldLink own i R0 n d).before a0 Z = true) (via : Via Z R0 O n d) (eT : T.heap = h) (F : Sta Z h O n d v) (hd : decode c.code pc = .ok (.getstatic i, 3)) (hq : pc + 3 = q) (K : ∀ T', Stand p l e R s m args below meth c T' locs cells slots → T'.heap = h → own_Go p e below s kc ks Q (T'.setTop (mkF m q Ls (v :: st)))) : own_Go p e below s kc ks Q (T.setTop (mkF m pc Ls st)) := by
  subst hq
  obtain ⟨T', X', e', st'⟩ := getS X hx hZ (host := "") hown w via eT F (g := mkF m pc Ls st) rfl hd
  exact own_via (fun t => st' t) (K T' X' e')
def own_V (h : Heap) (v : Option Value) (h' : Heap) (L : List Loc) : Prop := v = none ∧ h' = h ∧ L = []
def own_Like (X : Stand p l e R s m args below meth c T locs cells slots) (T' : State) : Prop := Stand p l e R s m args below meth c T' locs cells slots ∧ T'.heap = T.heap
def own_A (Z : State) (h : Heap) (a : Addr) (ty : FieldType) (vs : List Value) : Prop := ∃ c : Cell, Arr Z h a c ty ∧ c.slots.toList = vs
theorem own_A.lt {Z : State} {h : Heap} {a : Addr} {ty : FieldType} {vs : List Value} (F : own_A Z h a ty vs) : a < h.size := by obtain ⟨c, A, -⟩ := F; exact A.lt
theorem own_A.ext {Z : State} {h h' : Heap} {a : Addr} {ty : FieldType} {vs : List Value} (F : own_A Z h a ty vs) (E : Ext h h') : own_A Z h' a ty vs := by obtain ⟨c, A, r⟩ := F; exact ⟨c, A.ext E, r⟩
theorem own_A.other {Z : State} {h h' : Heap} {a b : Addr} {ty : FieldType} {vs : List Value} {sl : Nat} {v : Value} (F : own_A Z h b ty vs) (W : Wr h h' a sl v) (q : b ≠ a) : own_A Z h' b ty vs := by obtain ⟨c, A, r⟩ := F; exact ⟨c, A.other W q, r⟩
theorem own_A.keep {Z : State} {h h' : Heap} {a : Addr} {ty : FieldType} {vs : List Value} {ws : List Addr} (F : own_A Z h a ty vs) (K : Keep h h' ws) (q : a ∉ ws) : own_A Z h' a ty vs := by obtain ⟨c, A, r⟩ := F; exact ⟨c, ⟨K.2.1 a c A.1 q, A.2⟩, r⟩
theorem own_A.set {Z : State} {h h' : Heap} {a : Addr} {ty : FieldType} {vs : List Value} {i : Nat} {v : Value} (F : own_A Z h a ty vs) (W : Wr h h' a i v) : own_A Z h' a ty (vs.set i v) := by
  obtain ⟨c, A, rfl⟩ := F; exact ⟨_, A.same W, by simp [Cell.setSlot]⟩
theorem own_in {c : Cell} {j : Int32} {i : Nat} (hn : ¬ j < 0) (hj : j.toNatClampNeg = i) (hi : i < c.slots.toList.length) : ¬ (j < 0 ∨ c.slots.size ≤ j.toNatClampNeg) := by
  rintro (h | h)
  · exact hn h
  · rw [hj] at h; rw [Array.length_toList] at hi; exact absurd hi (Nat.not_lt.mpr h)
theorem own_iaload (X : Stand p l e R s m args below meth c T locs cells slots) (hx : p.tables.exec = Jvm.exec) {Z : State} {h : Heap} (hZ : Z.Warmed39 s.vm) {a : Addr} {j : Int32} {i : Nat} {vs : List Value} (eT : T.heap = h) {v : Value} (F : own_A Z h a .int vs) (hn : ¬ j < 0) (hj : j.toNatClampNeg = i) (hv : vs[i]? = some v) (hd : decode c.code pc = .ok (.iaload, 1)) (hq : pc + 1 = q) (K : own_Go p e below s kc ks Q (T.setTop (mkF m q Ls (v :: st)))) : own_Go p e below s kc ks Q (T.setTop (mkF m pc Ls (.int j :: .ref a :: st))) := by
  subst hq
  obtain ⟨cl, A, rfl⟩ := F
  have hv' : cl.slots[j.toNatClampNeg]? = some v := by rw [hj, ← Array.getElem?_toList]; exact hv
  have hin := own_in (c := cl) hn hj (List.getElem?_eq_some_iff.mp hv).1
  exact own_via (fun t => X.iaload hx (by rw [eT]; exact A.1) (State.isArrayOf_alike hZ.alike A.2.1) A.2.2 hin hv' (g := mkF m pc Ls (.int j :: .ref a :: st)) rfl rfl hd t) K
theorem own_laload (X : Stand p l e R s m args below meth c T locs cells slots) (hx : p.tables.exec = Jvm.exec) {Z : State} {h : Heap} (hZ : Z.Warmed39 s.vm) {a : Addr} {j : Int32} {i : Nat} {vs : List Value} (eT : T.heap = h) {v : Value} (F : own_A Z h a .long vs) (hn : ¬ j < 0) (hj : j.toNatClampNeg = i) (hv : vs[i]? = some v) (hd : decode c.code pc = .ok (.laload, 1)) (hq : pc + 1 = q) (K : own_Go p e below s kc ks Q (T.setTop (mkF m q Ls (v :: st)))) : own_Go p e below s kc ks Q (T.setTop (mkF m pc Ls (.int j :: .ref a :: st))) := by
  subst hq
  obtain ⟨cl, A, rfl⟩ := F
  have hv' : cl.slots[j.toNatClampNeg]? = some v := by rw [hj, ← Array.getElem?_toList]; exact hv
  have hin := own_in (c := cl) hn hj (List.getElem?_eq_some_iff.mp hv).1
  exact own_via (fun t => X.laload hx (by rw [eT]; exact A.1) (State.isArrayOf_alike hZ.alike A.2.1) A.2.2 hin hv' (g := mkF m pc Ls (.int j :: .ref a :: st)) rfl rfl hd t) K
theorem own_caload (X : Stand p l e R s m args below meth c T locs cells slots) (hx : p.tables.exec = Jvm.exec) {Z : State} {h : Heap} (hZ : Z.Warmed39 s.vm) {a : Addr} {j : Int32} {i : Nat} {vs : List Value} (eT : T.heap = h) {v : Value} (F : own_A Z h a .char vs) (hn : ¬ j < 0) (hj : j.toNatClampNeg = i) (hv : vs[i]? = some v) (hd : decode c.code pc = .ok (.caload, 1)) (hq : pc + 1 = q) (K : own_Go p e below s kc ks Q (T.setTop (mkF m q Ls (v :: st)))) : own_Go p e below s kc ks Q (T.setTop (mkF m pc Ls (.int j :: .ref a :: st))) := by
  subst hq
  obtain ⟨cl, A, rfl⟩ := F
  have hv' : cl.slots[j.toNatClampNeg]? = some v := by rw [hj, ← Array.getElem?_toList]; exact hv
  have hin := own_in (c := cl) hn hj (List.getElem?_eq_some_iff.mp hv).1
  exact own_via (fun t => X.caload hx (by rw [eT]; exact A.1) (State.isArrayOf_alike hZ.alike A.2.1) A.2.2 hin hv' (g := mkF m pc Ls (.int j :: .ref a :: st)) rfl rfl hd t) K
theorem own_baload (X : Stand p l e R s m args below meth c T locs cells slots) (hx : p.tables.exec = Jvm.exec) {Z : State} {h : Heap} (hZ : Z.Warmed39 s.vm) {a : Addr} {j : Int32} {i : Nat} {vs : List Value} (eT : T.heap = h) {v : Value} (F : own_A Z h a .byte vs) (hn : ¬ j < 0) (hj : j.toNatClampNeg = i) (hv : vs[i]? = some v) (hd : decode c.code pc = .ok (.baload, 1)) (hq : pc + 1 = q) (K : own_Go p e below s kc ks Q (T.setTop (mkF m q Ls (v :: st)))) : own_Go p e below s kc ks Q (T.setTop (mkF m pc Ls (.int j :: .ref a :: st))) := by
  subst hq
  obtain ⟨cl, A, rfl⟩ := F
  have hv' : cl.slots[j.toNatClampNeg]? = some v := by rw [hj, ← Array.getElem?_toList]; exact hv
  have hin := own_in (c := cl) hn hj (List.getElem?_eq_some_iff.mp hv).1
  exact own_via (fun t => X.baloadBytes hx (by rw [eT]; exact A.1) (State.isArrayOf_alike hZ.alike A.2.1) A.2.2 hin hv' (g := mkF m pc Ls (.int j :: .ref a :: st)) rfl rfl hd t) K
theorem own_zaload (X : Stand p l e R s m args below meth c T locs cells slots) (hx : p.tables.exec = Jvm.exec) {Z : State} {h : Heap} (hZ : Z.Warmed39 s.vm) {a : Addr} {j : Int32} {i : Nat} {vs : List Value} (eT : T.heap = h) {v : Value} (F : own_A Z h a .boolean vs) (hn : ¬ j < 0) (hj : j.toNatClampNeg = i) (hv : vs[i]? = some v) (hd : decode c.code pc = .ok (.baload, 1)) (hq : pc + 1 = q) (K : own_Go p e below s kc ks Q (T.setTop (mkF m q Ls (v :: st)))) : own_Go p e below s kc ks Q (T.setTop (mkF m pc Ls (.int j :: .ref a :: st))) := by
  subst hq
  obtain ⟨cl, A, rfl⟩ := F
  have hv' : cl.slots[j.toNatClampNeg]? = some v := by rw [hj, ← Array.getElem?_toList]; exact hv
  have hin := own_in (c := cl) hn hj (List.getElem?_eq_some_iff.mp hv).1
  exact own_via (fun t => X.baloadBooleans hx (by rw [eT]; exact A.1) (State.isArrayOf_alike hZ.alike A.2.1) A.2.2 hin hv' (g := mkF m pc Ls (.int j :: .ref a :: st)) rfl rfl hd t) K
theorem own_alen (X : Stand p l e R s m args below meth c T locs cells slots) (hx : p.tables.exec = Jvm.exec) {Z : State} {h : Heap} (hZ : Z.Warmed39 s.vm) {a : Addr} {vs : List Value} {ty : FieldType} {n : Int32} (eT : T.heap = h) (F : own_A Z h a ty vs) (hn : vs.length.toInt32 = n) (hd : decode c.code pc = .ok (.arraylength, 1)) (hq : pc + 1 = q) (K : own_Go p e below s kc ks Q (T.setTop (mkF m q Ls (.int n :: st)))) : own_Go p e below s kc ks Q (T.setTop (mkF m pc Ls (.ref a :: st))) := by
  subst hq
  obtain ⟨cl, A, rfl⟩ := F
  rw [Array.length_toList] at hn
  subst hn
  exact own_via (fun t => X.arraylength hx (by rw [eT]; exact A.1) (State.isArrayOf_alike hZ.alike A.2.1) (g := mkF m pc Ls (.ref a :: st)) rfl rfl hd t) K
theorem own_iastore (X : Stand p l e R s m args below meth c T locs cells slots) (hx : p.tables.exec = Jvm.exec) {Z : State} {h : Heap} (hZ : Z.Warmed39 s.vm) {a : Addr} {j : Int32} {i : Nat} {vs : List Value} (eT : T.heap = h) {x : Int32} (F : own_A Z h a .int vs) (hn : ¬ j < 0) (hj : j.toNatClampNeg = i) (hi : i < vs.length) (hd : decode c.code pc = .ok (.iastore, 1)) (hq : pc + 1 = q) (K : ∀ T' h', Stand p l e R s m args below meth c T' (locs ++ [⟨a, i⟩]) cells slots → T'.heap = h' → Wr h h' a i (.int x) → own_A Z h' a .int (vs.set i (.int x)) → own_Go p e below s kc ks Q (T'.setTop (mkF m q Ls st))) : own_Go p e below s kc ks Q (T.setTop (mkF m pc Ls (.int x :: .int j :: .ref a :: st))) := by
  subst hq hj
  have F' := F
  obtain ⟨cl, A, rfl⟩ := F
  have hin := own_in (c := cl) hn rfl hi
  obtain ⟨T', h', X', e', W', st'⟩ := stI X hx hZ eT A hin (g := mkF m pc Ls (.int x :: .int j :: .ref a :: st)) rfl rfl hd
  exact own_via (fun t => st' t) (K T' h' X' e' W' (F'.set W'))
theorem own_lastore (X : Stand p l e R s m args below meth c T locs cells slots) (hx : p.tables.exec = Jvm.exec) {Z : State} {h : Heap} (hZ : Z.Warmed39 s.vm) {a : Addr} {j : Int32} {i : Nat} {vs : List Value} (eT : T.heap = h) {x : Int64} (F : own_A Z h a .long vs) (hn : ¬ j < 0) (hj : j.toNatClampNeg = i) (hi : i < vs.length) (hd : decode c.code pc = .ok (.lastore, 1)) (hq : pc + 1 = q) (K : ∀ T' h', Stand p l e R s m args below meth c T' (locs ++ [⟨a, i⟩]) cells slots → T'.heap = h' → Wr h h' a i (.long x) → own_A Z h' a .long (vs.set i (.long x)) → own_Go p e below s kc ks Q (T'.setTop (mkF m q Ls st))) : own_Go p e below s kc ks Q (T.setTop (mkF m pc Ls (.long x :: .int j :: .ref a :: st))) := by
  subst hq hj
  have F' := F
  obtain ⟨cl, A, rfl⟩ := F
  have hin := own_in (c := cl) hn rfl hi
  obtain ⟨T', h', X', e', W', st'⟩ := stJ X hx hZ eT A hin (g := mkF m pc Ls (.long x :: .int j :: .ref a :: st)) rfl rfl hd
  exact own_via (fun t => st' t) (K T' h' X' e' W' (F'.set W'))
theorem own_castore (X : Stand p l e R s m args below meth c T locs cells slots) (hx : p.tables.exec = Jvm.exec) {Z : State} {h : Heap} (hZ : Z.Warmed39 s.vm) {a : Addr} {j : Int32} {i : Nat} {vs : List Value} (eT : T.heap = h) {x : Int32} (F : own_A Z h a .char vs) (hn : ¬ j < 0) (hj : j.toNatClampNeg = i) (hi : i < vs.length) (hd : decode c.code pc = .ok (.castore, 1)) (hq : pc + 1 = q) (K : ∀ T' h', Stand p l e R s m args below meth c T' (locs ++ [⟨a, i⟩]) cells slots → T'.heap = h' → Wr h h' a i (.int (nar .char x)) → own_A Z h' a .char (vs.set i (.int (nar .char x))) → own_Go p e below s kc ks Q (T'.setTop (mkF m q Ls st))) : own_Go p e below s kc ks Q (T.setTop (mkF m pc Ls (.int x :: .int j :: .ref a :: st))) := by
  subst hq hj
  have F' := F
  obtain ⟨cl, A, rfl⟩ := F
  have hin := own_in (c := cl) hn rfl hi
  obtain ⟨T', h', X', e', W', st'⟩ := stC X hx hZ eT A hin (g := mkF m pc Ls (.int x :: .int j :: .ref a :: st)) rfl rfl hd
  exact own_via (fun t => st' t) (K T' h' X' e' W' (F'.set W'))
theorem own_bastore (X : Stand p l e R s m args below meth c T locs cells slots) (hx : p.tables.exec = Jvm.exec) {Z : State} {h : Heap} (hZ : Z.Warmed39 s.vm) {a : Addr} {j : Int32} {i : Nat} {vs : List Value} (eT : T.heap = h) {x : Int32} (F : own_A Z h a .byte vs) (hn : ¬ j < 0) (hj : j.toNatClampNeg = i) (hi : i < vs.length) (hd : decode c.code pc = .ok (.bastore, 1)) (hq : pc + 1 = q) (K : ∀ T' h', Stand p l e R s m args below meth c T' (locs ++ [⟨a, i⟩]) cells slots → T'.heap = h' → Wr h h' a i (.int x.toInt8.toInt32) → own_A Z h' a .byte (vs.set i (.int x.toInt8.toInt32)) → own_Go p e below s kc ks Q (T'.setTop (mkF m q Ls st))) : own_Go p e below s kc ks Q (T.setTop (mkF m pc Ls (.int x :: .int j :: .ref a :: st))) := by
  subst hq hj
  have F' := F
  obtain ⟨cl, A, rfl⟩ := F
  have hin := own_in (c := cl) hn rfl hi
  obtain ⟨T', h', X', e', W', st'⟩ := stB X hx hZ eT A hin (g := mkF m pc Ls (.int x :: .int j :: .ref a :: st)) rfl rfl hd
  exact own_via (fun t => st' t) (K T' h' X' e' W' (F'.set W'))
theorem own_zastore (X : Stand p l e R s m args below meth c T locs cells slots) (hx : p.tables.exec = Jvm.exec) {Z : State} {h : Heap} (hZ : Z.Warmed39 s.vm) {a : Addr} {j : Int32} {i : Nat} {vs : List Value} (eT : T.heap = h) {x : Int32} (F : own_A Z h a .boolean vs) (hn : ¬ j < 0) (hj : j.toNatClampNeg = i) (hi : i < vs.length) (hd : decode c.code pc = .ok (.bastore, 1)) (hq : pc + 1 = q) (K : ∀ T' h', Stand p l e R s m args below meth c T' (locs ++ [⟨a, i⟩]) cells slots → T'.heap = h' → Wr h h' a i (.int (nar .boolean x)) → own_A Z h' a .boolean (vs.set i (.int (nar .boolean x))) → own_Go p e below s kc ks Q (T'.setTop (mkF m q Ls st))) : own_Go p e below s kc ks Q (T.setTop (mkF m pc Ls (.int x :: .int j :: .ref a :: st))) := by
  subst hq hj
  have F' := F
  obtain ⟨cl, A, rfl⟩ := F
  have hin := own_in (c := cl) hn rfl hi
  obtain ⟨T', h', X', e', W', st'⟩ := stZ X hx hZ eT A hin (g := mkF m pc Ls (.int x :: .int j :: .ref a :: st)) rfl rfl hd
  exact own_via (fun t => st' t) (K T' h' X' e' W' (F'.set W'))
theorem own_newA (X : Stand p l e R s m args below meth c T locs cells slots) (hx : p.tables.exec = Jvm.exec) {Z : State} {a0 : Array Value} {h : Heap} (hZ : Z.Warmed39 s.vm) {aty : ArrayType} {ty : FieldType} {n : Int32} {k cap : Nat} (hty : newarray.typeOf aty = ty) (w : (Cond.arrayClass ty).before a0 Z = true) (eT : T.heap = h) (hn : ¬ n < 0) (hk : n.toNatClampNeg = k) (hcap : k ≤ cap) (hb8 : cap * 8 ≤ 536870912) (hc : cells + 1 ≤ R.cells) (hl : slots + cap ≤ R.slots) (hd : decode c.code pc = .ok (.newarray aty, 2)) (hq : pc + 2 = q) (K : ∀ T' h' a, Stand p l e R s m args below meth c T' locs (cells + 1) (slots + cap) → T'.heap = h' → a = h.size → Ext h h' → own_A Z h' a ty (List.replicate k (defaultValue ty)) → own_Go p e below s kc ks Q (T'.setTop (mkF m q Ls (.ref a :: st)))) : own_Go p e below s kc ks Q (T.setTop (mkF m pc Ls (.int n :: st))) := by
  subst hq hty hk
  obtain ⟨T', h', cA, X', e', E', A', st'⟩ := newP X hx hZ w eT (g := mkF m pc Ls (.int n :: st)) rfl hd rfl hn hcap hb8 hc hl
  exact own_via (fun t => st' t) (K T' h' _ X' e' rfl E' ⟨_, A', by simp [newA]⟩)
theorem own_lswHit (X : Stand p l e R s m args below meth c T locs cells slots) (hx : p.tables.exec = Jvm.exec) {k : Int32} {dflt : Int} {prs : Array (Int × Int)} {len : Nat} {v : Int32} {b off : Int} (hk : k = v) (hd : decode c.code pc = .ok (.lookupswitch dflt prs, len)) (hs : (prs.toList.zip (prs.toList.drop 1)).all (fun (a, next) => a.1 < next.1) = true) (hf : prs.find? (·.1 == v.toInt) = some (b, off)) (ho : 0 ≤ (pc : Int) + off) (hp : ((pc : Int) + off).toNat = q) (K : own_Go p e below s kc ks Q (T.setTop (mkF m q Ls st))) : own_Go p e below s kc ks Q (T.setTop (mkF m pc Ls (.int k :: st))) := by
  subst hk hp; exact own_via (fun t => X.lookupswitchHit hx (g := mkF m pc Ls (.int k :: st)) rfl rfl hd hs hf ho t) K
theorem own_lswMiss (X : Stand p l e R s m args below meth c T locs cells slots) (hx : p.tables.exec = Jvm.exec) {k : Int32} {dflt : Int} {prs : Array (Int × Int)} {len : Nat} (hm : prs.find? (·.1 == k.toInt) = none) (hd : decode c.code pc = .ok (.lookupswitch dflt prs, len)) (hs : (prs.toList.zip (prs.toList.drop 1)).all (fun (a, next) => a.1 < next.1) = true) (ho : 0 ≤ (pc : Int) + dflt) (hp : ((pc : Int) + dflt).toNat = q) (K : own_Go p e below s kc ks Q (T.setTop (mkF m q Ls st))) : own_Go p e below s kc ks Q (T.setTop (mkF m pc Ls (.int k :: st))) := by
  subst hp; exact own_via (fun t => X.lookupswitchMiss hx (g := mkF m pc Ls (.int k :: st)) rfl rfl hd hs hm ho t) K
theorem own_instY (X : Stand p l e R s m args below meth c T locs cells slots) (hx : p.tables.exec = Jvm.exec) {Z : State} {a0 : Array Value} {h : Heap} (hZ : Z.Warmed39 s.vm) {own : String} {i : Nat} (hown : s.vm.findClass own = some m.cls) {a : Addr} {K0 : String} (w : (Cond.classLink own i K0).before a0 Z = true) (eT : T.heap = h) (F : Ins Z h a K0 true) (hd : decode c.code pc = .ok (.instanceof i, 3)) (hq : pc + 3 = q) (K : ∀ T', Stand p l e R s m args below meth c T' locs cells slots → T'.heap = h → own_Go p e below s kc ks Q (T'.setTop (mkF m q Ls (.int 1 :: st)))) : own_Go p e below s kc ks Q (T.setTop (mkF m pc Ls (.ref a :: st))) := by
  subst hq
  obtain ⟨T', X', e', st'⟩ := instY X hx hZ hown w eT F (g := mkF m pc Ls (.ref a :: st)) rfl rfl hd
  exact own_via (fun t => st' t) (K T' X' e')
theorem own_instN (X : Stand p l e R s m args below meth c T locs cells slots) (hx : p.tables.exec = Jvm.exec) {Z : State} {a0 : Array Value} {h : Heap} (hZ : Z.Warmed39 s.vm) {own : String} {i : Nat} (hown : s.vm.findClass own = some m.cls) {a : Addr} {K0 C : String} (w : (Cond.classLink own i K0).before a0 Z = true) (eT : T.heap = h) (E : Exa Z h a C) (F : ∃ c t, Z.vm.findClass C = some c ∧ Z.vm.findClass K0 = some t ∧ Z.vm.assignable c t = false) (hd : decode c.code pc = .ok (.instanceof i, 3)) (hq : pc + 3 = q) (K : ∀ T', Stand p l e R s m args below meth c T' locs cells slots → T'.heap = h → own_Go p e below s kc ks Q (T'.setTop (mkF m q Ls (.int 0 :: st)))) : own_Go p e below s kc ks Q (T.setTop (mkF m pc Ls (.ref a :: st))) := by
  subst hq
  obtain ⟨T', X', e', st'⟩ := instNo X hx hZ hown w eT E F (g := mkF m pc Ls (.ref a :: st)) rfl rfl hd
  exact own_via (fun t => st' t) (K T' X' e')
theorem own_cast (X : Stand p l e R s m args below meth c T locs cells slots) (hx : p.tables.exec = Jvm.exec) {Z : State} {a0 : Array Value} {h : Heap} (hZ : Z.Warmed39 s.vm) {own : String} {i : Nat} (hown : s.vm.findClass own = some m.cls) {a : Addr} {K0 : String} (w : (Cond.classLink own i K0).before a0 Z = true) (eT : T.heap = h) (F : Ins Z h a K0 true) (hd : decode c.code pc = .ok (.checkcast i, 3)) (hq : pc + 3 = q) (K : ∀ T', Stand p l e R s m args below meth c T' locs cells slots → T'.heap = h → own_Go p e below s kc ks Q (T'.setTop (mkF m q Ls (.ref a :: st)))) : own_Go p e below s kc ks Q (T.setTop (mkF m pc Ls (.ref a :: st))) := by
  subst hq
  obtain ⟨T', X', e', st'⟩ := castY X hx hZ hown w eT F (g := mkF m pc Ls (.ref a :: st)) rfl rfl hd
  exact own_via (fun t => st' t) (K T' X' e')
theorem own_inst0 (X : Stand p l e R s m args below meth c T locs cells slots) (hx : p.tables.exec = Jvm.exec) {i : Nat} (hd : decode c.code pc = .ok (.instanceof i, 3)) (hq : pc + 3 = q) (K : own_Go p e below s kc ks Q (T.setTop (mkF m q Ls (.int 0 :: st)))) : own_Go p e below s kc ks Q (T.setTop (mkF m pc Ls (.null :: st))) := by
  subst hq; exact own_via (fun t => X.instanceofNull hx (g := mkF m pc Ls (.null :: st)) rfl (rest := st) rfl hd t) K
theorem own_staKeep {Z : State} {h h' : Heap} {ws : List Addr} {C n d : String} {v : Value} (F : Sta Z h C n d v) (K : Keep h h' ws) (q : ∀ a ∈ ws, ∀ c : Cell, h[a]? = some c → c.vm.isStatics = false) : Sta Z h' C n d v := by
  obtain ⟨cf, i, k, f, st, cell, h1, h2, h3, h4, h5, h6, h7⟩ := F
  exact ⟨cf, i, k, f, st, cell, h1, h2, h3, h4, K.2.1 st cell h5 (fun hm => by rw [q st hm cell h5] at h6; cases h6), h6, h7⟩
theorem own_exaPlain {Z : State} {h : Heap} {a : Addr} {C : String} (E : Exa Z h a C) : ∀ c : Cell, h[a]? = some c → c.vm.isStatics = false := fun c hc => by
  obtain ⟨cell, k, h1, -, -, h4, -⟩ := E
  cases h1.symm.trans hc; exact h4
theorem own_A.plain {Z : State} {h : Heap} {a : Addr} {ty : FieldType} {vs : List Value} (F : own_A Z h a ty vs) : ∀ c : Cell, h[a]? = some c → c.vm.isStatics = false := fun c hc => by
  obtain ⟨cl, A, -⟩ := F
  cases A.1.symm.trans hc; exact A.plain
theorem own_callSP (X : Stand p l e R s m args below meth c T locs cells slots) (hx : p.tables.exec = Jvm.exec) {Z : State} {a0 : Array Value} {h : Heap} {own : String} {index : Nat} {y : MethodName} {bytes : ByteArray} {maxL : Nat} {ret : Option FieldType} {W : Nat} {argsL : List Value} {fr lo : Nat} {w : Value} {ps : List FieldType} {r : Option FieldType} {st0 : List Value} (hZ : Z.Warmed39 s.vm) (hown : s.vm.findClass own = some m.cls) (w1 : (Cond.methodLink own index y).before a0 Z = true) (w2 : (Cond.static y).before a0 Z = true) (w3 : (Cond.initialized y.cls).before a0 Z = true) (w4 : (Cond.code y bytes maxL ret).before a0 Z = true) (hy : y.cls ≠ "java/lang/invoke/MethodHandle" ∧ y.cls ≠ "java/lang/invoke/VarHandle") (hM : MetFree l y (head1 [Cond.code y bytes maxL ret] ({ frames := fr, cells := 0, slots := 0, locals := lo } : Room)) (fun aa U => aa = argsL.toArray ∧ Z.Warmed39 U.vm ∧ U.heap = h) (fun _ _ _ _ _ => True) (fun _ U o U' => ∃ v L, o = .returned v ∧ own_P w h v U'.heap L ∧ FrameEnd U o U' L 0 0)) (hpd : parseMethodDescriptor y.desc = some ⟨ps, r⟩) (hlen : argsL.length = ps.length) (eT : T.heap = h) (hml : Ls.size = c.maxLocals) (hst : st0 = argsL.reverse ++ st) (hW : (st.map fun v => v.category).sum ≤ W) (hf : fr + 1 ≤ R.frames) (hl : W + (maxL + 11) + lo ≤ R.locals) (hc : cells ≤ R.cells) (hs : slots ≤ R.slots) (hd : decode c.code pc = .ok (.invokestatic index, 3)) (hq : pc + 3 = q) (K : ∀ T', Stand p l e R s m args below meth c T' locs cells slots → T'.heap = h → own_Go p e below s kc ks Q (T'.setTop (mkF m q Ls (w :: st)))) : own_Go p e below s kc ks Q (T.setTop (mkF m pc Ls st0)) := by
  refine own_callS X hx hZ hown w1 w2 w3 w4 hy hM hpd hlen eT hml hst hW hf hl hc hs hd hq fun v T' L X' hQ => ?_
  obtain ⟨rfl, eh, rfl⟩ := hQ
  rw [List.append_nil] at X'
  exact K T' X' eh
theorem own_callVP (X : Stand p l e R s m args below meth c T locs cells slots) (hx : p.tables.exec = Jvm.exec) {a : Addr} {C : String} {z : MethodName} {Z : State} {a0 : Array Value} {h : Heap} {own : String} {index : Nat} {y : MethodName} {bytes : ByteArray} {maxL : Nat} {ret : Option FieldType} {W : Nat} {argsL : List Value} {fr lo : Nat} {w : Value} {ps : List FieldType} {r : Option FieldType} {st0 : List Value} (hZ : Z.Warmed39 s.vm) (hown : s.vm.findClass own = some m.cls) (w1 : (Cond.methodLink own index y).before a0 Z = true) (w2 : (Cond.declares y).before a0 Z = true) (w5 : (Cond.selects y.cls y y).before a0 Z = true) (w6 : (Cond.selects C y z).before a0 Z = true) (w7 : (Cond.instanceMethod z).before a0 Z = true) (w3 : (Cond.initialized z.cls).before a0 Z = true) (w4 : (Cond.code z bytes maxL ret).before a0 Z = true) (E : Exa Z h a C) (hy : y.cls ≠ "java/lang/invoke/MethodHandle" ∧ y.cls ≠ "java/lang/invoke/VarHandle") (hM : MetFree l z (head1 [Cond.code z bytes maxL ret] ({ frames := fr, cells := 0, slots := 0, locals := lo } : Room)) (fun aa U => aa = (.ref a :: argsL).toArray ∧ Z.Warmed39 U.vm ∧ U.heap = h) (fun _ _ _ _ _ => True) (fun _ U o U' => ∃ v L, o = .returned v ∧ own_P w h v U'.heap L ∧ FrameEnd U o U' L 0 0)) (hpd : parseMethodDescriptor y.desc = some ⟨ps, r⟩) (hlen : argsL.length = ps.length) (eT : T.heap = h) (hml : Ls.size = c.maxLocals) (hst : st0 = argsL.reverse ++ .ref a :: st) (hW : (st.map fun v => v.category).sum ≤ W) (hf : fr + 1 ≤ R.frames) (hl : W + (maxL + 11) + lo ≤ R.locals) (hc : cells ≤ R.cells) (hs : slots ≤ R.slots) (hd : decode c.code pc = .ok (.invokevirtual index, 3)) (hq : pc + 3 = q) (K : ∀ T', Stand p l e R s m args below meth c T' locs cells slots → T'.heap = h → own_Go p e below s kc ks Q (T'.setTop (mkF m q Ls (w :: st)))) : own_Go p e below s kc ks Q (T.setTop (mkF m pc Ls st0)) := by
  refine own_callV X hx hZ hown w1 w2 w5 w6 w7 w3 w4 E hy hM hpd hlen eT hml hst hW hf hl hc hs hd hq fun v T' L X' hQ => ?_
  obtain ⟨rfl, eh, rfl⟩ := hQ
  rw [List.append_nil] at X'
  exact K T' X' eh
theorem own_callCV (X : Stand p l e R s m args below meth c T locs cells slots) (hx : p.tables.exec = Jvm.exec) {a : Addr} {Z : State} {a0 : Array Value} {h : Heap} {own : String} {index : Nat} {y : MethodName} {bytes : ByteArray} {maxL : Nat} {W : Nat} {argsL : List Value} {fr lo : Nat} {ps : List FieldType} {r : Option FieldType} {st0 : List Value} (hZ : Z.Warmed39 s.vm) (hown : s.vm.findClass own = some m.cls) (hy1 : y.name = "<init>") (w1 : (Cond.methodLink own index y).before a0 Z = true) (w2 : (Cond.instanceMethod y).before a0 Z = true) (w3 : (Cond.initialized y.cls).before a0 Z = true) (w4 : (Cond.code y bytes maxL none).before a0 Z = true) (hy : y.cls ≠ "java/lang/invoke/MethodHandle" ∧ y.cls ≠ "java/lang/invoke/VarHandle") (hM : MetFree l y (head1 [Cond.code y bytes maxL none] ({ frames := fr, cells := 0, slots := 0, locals := lo } : Room)) (fun aa U => aa = (.ref a :: argsL).toArray ∧ Z.Warmed39 U.vm ∧ U.heap = h) (fun _ _ _ _ _ => True) (fun _ U o U' => ∃ v L, o = .returned v ∧ own_V h v U'.heap L ∧ FrameEnd U o U' L 0 0)) (hpd : parseMethodDescriptor y.desc = some ⟨ps, r⟩) (hlen : argsL.length = ps.length) (eT : T.heap = h) (hml : Ls.size = c.maxLocals) (hst : st0 = argsL.reverse ++ .ref a :: st) (hW : (st.map fun v => v.category).sum ≤ W) (hf : fr + 1 ≤ R.frames) (hl : W + (maxL + 11) + lo ≤ R.locals) (hc : cells ≤ R.cells) (hs : slots ≤ R.slots) (hd : decode c.code pc = .ok (.invokespecial index, 3)) (hq : pc + 3 = q) (K : ∀ T', Stand p l e R s m args below meth c T' locs cells slots → T'.heap = h → own_Go p e below s kc ks Q (T'.setTop (mkF m q Ls st))) : own_Go p e below s kc ks Q (T.setTop (mkF m pc Ls st0)) := by
  refine own_callC X hx hZ hown hy1 w1 w2 w3 w4 hy hM hpd hlen eT hml hst hW hf hl hc hs hd hq fun v T' L X' hQ => ?_
  obtain ⟨rfl, eh, rfl⟩ := hQ
  rw [List.append_nil] at X'
  exact K T' X' eh
theorem own_callSV (X : Stand p l e R s m args below meth c T locs cells slots) (hx : p.tables.exec = Jvm.exec) {Z : State} {a0 : Array Value} {h : Heap} {own : String} {index : Nat} {y : MethodName} {bytes : ByteArray} {maxL : Nat} {ret : Option FieldType} {W : Nat} {argsL : List Value} {fr lo : Nat} {ps : List FieldType} {r : Option FieldType} {st0 : List Value} (hZ : Z.Warmed39 s.vm) (hown : s.vm.findClass own = some m.cls) (w1 : (Cond.methodLink own index y).before a0 Z = true) (w2 : (Cond.static y).before a0 Z = true) (w3 : (Cond.initialized y.cls).before a0 Z = true) (w4 : (Cond.code y bytes maxL ret).before a0 Z = true) (hy : y.cls ≠ "java/lang/invoke/MethodHandle" ∧ y.cls ≠ "java/lang/invoke/VarHandle") (hM : MetFree l y (head1 [Cond.code y bytes maxL ret] ({ frames := fr, cells := 0, slots := 0, locals := lo } : Room)) (fun aa U => aa = argsL.toArray ∧ Z.Warmed39 U.vm ∧ U.heap = h) (fun _ _ _ _ _ => True) (fun _ U o U' => ∃ v L, o = .returned v ∧ own_V h v U'.heap L ∧ FrameEnd U o U' L 0 0)) (hpd : parseMethodDescriptor y.desc = some ⟨ps, r⟩) (hlen : argsL.length = ps.length) (eT : T.heap = h) (hml : Ls.size = c.maxLocals) (hst : st0 = argsL.reverse ++ st) (hW : (st.map fun v => v.category).sum ≤ W) (hf : fr + 1 ≤ R.frames) (hl : W + (maxL + 11) + lo ≤ R.locals) (hc : cells ≤ R.cells) (hs : slots ≤ R.slots) (hd : decode c.code pc = .ok (.invokestatic index, 3)) (hq : pc + 3 = q) (K : ∀ T', Stand p l e R s m args below meth c T' locs cells slots → T'.heap = h → own_Go p e below s kc ks Q (T'.setTop (mkF m q Ls st))) : own_Go p e below s kc ks Q (T.setTop (mkF m pc Ls st0)) := by
  refine own_callS X hx hZ hown w1 w2 w3 w4 hy hM hpd hlen eT hml hst hW hf hl hc hs hd hq fun v T' L X' hQ => ?_
  obtain ⟨rfl, eh, rfl⟩ := hQ
  rw [List.append_nil] at X'
  exact K T' X' eh
theorem own_callVV (X : Stand p l e R s m args below meth c T locs cells slots) (hx : p.tables.exec = Jvm.exec) {a : Addr} {C : String} {z : MethodName} {Z : State} {a0 : Array Value} {h : Heap} {own : String} {index : Nat} {y : MethodName} {bytes : ByteArray} {maxL : Nat} {ret : Option FieldType} {W : Nat} {argsL : List Value} {fr lo : Nat} {ps : List FieldType} {r : Option FieldType} {st0 : List Value} (hZ : Z.Warmed39 s.vm) (hown : s.vm.findClass own = some m.cls) (w1 : (Cond.methodLink own index y).before a0 Z = true) (w2 : (Cond.declares y).before a0 Z = true) (w5 : (Cond.selects y.cls y y).before a0 Z = true) (w6 : (Cond.selects C y z).before a0 Z = true) (w7 : (Cond.instanceMethod z).before a0 Z = true) (w3 : (Cond.initialized z.cls).before a0 Z = true) (w4 : (Cond.code z bytes maxL ret).before a0 Z = true) (E : Exa Z h a C) (hy : y.cls ≠ "java/lang/invoke/MethodHandle" ∧ y.cls ≠ "java/lang/invoke/VarHandle") (hM : MetFree l z (head1 [Cond.code z bytes maxL ret] ({ frames := fr, cells := 0, slots := 0, locals := lo } : Room)) (fun aa U => aa = (.ref a :: argsL).toArray ∧ Z.Warmed39 U.vm ∧ U.heap = h) (fun _ _ _ _ _ => True) (fun _ U o U' => ∃ v L, o = .returned v ∧ own_V h v U'.heap L ∧ FrameEnd U o U' L 0 0)) (hpd : parseMethodDescriptor y.desc = some ⟨ps, r⟩) (hlen : argsL.length = ps.length) (eT : T.heap = h) (hml : Ls.size = c.maxLocals) (hst : st0 = argsL.reverse ++ .ref a :: st) (hW : (st.map fun v => v.category).sum ≤ W) (hf : fr + 1 ≤ R.frames) (hl : W + (maxL + 11) + lo ≤ R.locals) (hc : cells ≤ R.cells) (hs : slots ≤ R.slots) (hd : decode c.code pc = .ok (.invokevirtual index, 3)) (hq : pc + 3 = q) (K : ∀ T', Stand p l e R s m args below meth c T' locs cells slots → T'.heap = h → own_Go p e below s kc ks Q (T'.setTop (mkF m q Ls st))) : own_Go p e below s kc ks Q (T.setTop (mkF m pc Ls st0)) := by
  refine own_callV X hx hZ hown w1 w2 w5 w6 w7 w3 w4 E hy hM hpd hlen eT hml hst hW hf hl hc hs hd hq fun v T' L X' hQ => ?_
  obtain ⟨rfl, eh, rfl⟩ := hQ
  rw [List.append_nil] at X'
  exact K T' X' eh
end OwnKit
theorem own_feq {s : State} {args : Array Value} {t : Term} {x : Addr} {C n d : String} {k : Int32} (h : (Jvm.Cond.eq (Term.field t C n d) (Term.int k)).value args s none s [] = some true) (ht : t.eval args s none [] s = some (.ref x)) : Fld s s.heap x C n d (.int k) := by
  obtain ⟨v, w, e1, e2, k1, k2⟩ := cmp_v (Or.inl h)
  obtain rfl : w = .int k := Option.some.inj (e2.symm.trans (Term.int_eval k))
  obtain ⟨z, rfl⟩ := k2
  have hz : z = k := by simpa [Cond.value, e1, e2] using h
  subst hz
  exact Fld.start (by rw [← fld_at ht]; exact e1)
theorem own_pn0 : plainName "com/example/ferrule/ferrule/jacdac/bus/WireKind" = true := by first | (simp [plainName, overriddenIn]; done) | decide +kernel
theorem own_ef1 (m : MethodId) (p1 : Int32) (p2 : Int32) : entryFrame m #[.int p1, .int p2] 2 = mkF m 0 #[.val (.int p1), .val (.int p2)] [] := by first | (simp [entryFrame, mkF, argsToLocals, Value.category]; done) | rfl
theorem own_d1_0 : decode prog_45_method_4_code 0 = .ok (.iload_n 0, 1) := by decide +kernel
theorem own_d1_1 : decode prog_45_method_4_code 1 = .ok (.ldc 48, 2) := by decide +kernel
theorem own_d1_3 : decode prog_45_method_4_code 3 = .ok (.iand, 1) := by decide +kernel
theorem own_d1_4 : decode prog_45_method_4_code 4 = .ok (.ifCond .eq 7, 3) := by decide +kernel
theorem own_d1_7 : decode prog_45_method_4_code 7 = .ok (.getstatic 19, 3) := by decide +kernel
theorem own_d1_10 : decode prog_45_method_4_code 10 = .ok (.areturn, 1) := by decide +kernel
theorem own_d1_11 : decode prog_45_method_4_code 11 = .ok (.iload_n 0, 1) := by decide +kernel
theorem own_d1_12 : decode prog_45_method_4_code 12 = .ok (.ldc 49, 2) := by decide +kernel
theorem own_d1_14 : decode prog_45_method_4_code 14 = .ok (.iand, 1) := by decide +kernel
theorem own_d1_15 : decode prog_45_method_4_code 15 = .ok (.lookupswitch 47 #[(4096, 25), (8192, 41)], 25) := by decide +kernel
theorem own_d1_40 : decode prog_45_method_4_code 40 = .ok (.iload_n 1, 1) := by decide +kernel
theorem own_d1_41 : decode prog_45_method_4_code 41 = .ok (.ifCond .eq 9, 3) := by decide +kernel
theorem own_d1_44 : decode prog_45_method_4_code 44 = .ok (.getstatic 3, 3) := by decide +kernel
theorem own_d1_47 : decode prog_45_method_4_code 47 = .ok (.goto 28, 3) := by decide +kernel
theorem own_d1_50 : decode prog_45_method_4_code 50 = .ok (.getstatic 10, 3) := by decide +kernel
theorem own_d1_53 : decode prog_45_method_4_code 53 = .ok (.goto 22, 3) := by decide +kernel
theorem own_d1_56 : decode prog_45_method_4_code 56 = .ok (.getstatic 7, 3) := by decide +kernel
theorem own_d1_59 : decode prog_45_method_4_code 59 = .ok (.goto 16, 3) := by decide +kernel
theorem own_d1_62 : decode prog_45_method_4_code 62 = .ok (.iload_n 1, 1) := by decide +kernel
theorem own_d1_63 : decode prog_45_method_4_code 63 = .ok (.ifCond .eq 9, 3) := by decide +kernel
theorem own_d1_66 : decode prog_45_method_4_code 66 = .ok (.getstatic 13, 3) := by decide +kernel
theorem own_d1_69 : decode prog_45_method_4_code 69 = .ok (.goto 6, 3) := by decide +kernel
theorem own_d1_72 : decode prog_45_method_4_code 72 = .ok (.getstatic 16, 3) := by decide +kernel
theorem own_d1_75 : decode prog_45_method_4_code 75 = .ok (.areturn, 1) := by decide +kernel
def own_f1 (p1 : Int32) (p2 : Int32) (kCOMMAND : Addr) (kEVENT : Addr) (kREPORT : Addr) (kGET : Addr) (kREGISTER : Addr) (kSET : Addr) : Addr := (if (p1 &&& (32768 : Int32)) = (0 : Int32) then (if (p1 &&& (61440 : Int32)) = (4096 : Int32) then (if p2 = (0 : Int32) then kREGISTER else kGET) else (if (p1 &&& (61440 : Int32)) = (8192 : Int32) then kSET else (if p2 = (0 : Int32) then kREPORT else kCOMMAND))) else kEVENT)
set_option maxRecDepth 65536 in
set_option maxHeartbeats 40000000 in
theorem rm1 (l : Launch) (Z : State) (a0 : Array Value) (hw : ∀ d ∈ tables_1, d.before a0 Z = true) (ws : List Jvm.Cond) (p1 : Int32) (p2 : Int32) (kCOMMAND : Addr) (kEVENT : Addr) (kREPORT : Addr) (kGET : Addr) (kREGISTER : Addr) (kSET : Addr) (h0 : Heap) (S0p : Sta Z h0 "com/example/ferrule/ferrule/jacdac/bus/WireKind" "COMMAND" "Lcom/example/ferrule/ferrule/jacdac/bus/WireKind;" (.ref kCOMMAND)) (S1p : Sta Z h0 "com/example/ferrule/ferrule/jacdac/bus/WireKind" "EVENT" "Lcom/example/ferrule/ferrule/jacdac/bus/WireKind;" (.ref kEVENT)) (S2p : Sta Z h0 "com/example/ferrule/ferrule/jacdac/bus/WireKind" "REPORT" "Lcom/example/ferrule/ferrule/jacdac/bus/WireKind;" (.ref kREPORT)) (S3p : Sta Z h0 "com/example/ferrule/ferrule/jacdac/bus/WireKind" "GET" "Lcom/example/ferrule/ferrule/jacdac/bus/WireKind;" (.ref kGET)) (S4p : Sta Z h0 "com/example/ferrule/ferrule/jacdac/bus/WireKind" "REGISTER" "Lcom/example/ferrule/ferrule/jacdac/bus/WireKind;" (.ref kREGISTER)) (S5p : Sta Z h0 "com/example/ferrule/ferrule/jacdac/bus/WireKind" "SET" "Lcom/example/ferrule/ferrule/jacdac/bus/WireKind;" (.ref kSET)) :
    MetFree l (⟨"com/example/ferrule/ferrule/jacdac/bus/WireKind", "of", "(IZ)Lcom/example/ferrule/ferrule/jacdac/bus/WireKind;"⟩ : MethodName) (head1 (Jvm.Cond.code (⟨"com/example/ferrule/ferrule/jacdac/bus/WireKind", "of", "(IZ)Lcom/example/ferrule/ferrule/jacdac/bus/WireKind;"⟩ : MethodName) prog_45_method_4_code 2 (some (.object "com/example/ferrule/ferrule/jacdac/bus/WireKind")) :: ws) ({ frames := 0, cells := 0, slots := 0, locals := 0 } : Room)) (fun a U => a = #[.int p1, .int p2] ∧ Z.Warmed39 U.vm ∧ U.heap = h0) (fun _ _ _ _ _ => True) (fun _ U o U' => ∃ v L, o = .returned v ∧ own_P (.ref (own_f1 p1 p2 kCOMMAND kEVENT kREPORT kGET kREGISTER kSET)) h0 v U'.heap L ∧ FrameEnd U o U' L ({ frames := 0, cells := 0, slots := 0, locals := 0 } : Room).cells ({ frames := 0, cells := 0, slots := 0, locals := 0 } : Room).slots) := by
  refine MetFree.of_bodySF (plainFor_of_name own_pn0) hisR ?_
  intro p e s m args below meth c s₁ Bd hml0 hP hK
  obtain ⟨rfl, hZ, hh⟩ := hP
  have hx := Bd.exec
  have hby := Bd.bytes
  have hml : c.maxLocals = 2 := hml0
  have hown : s.vm.findClass "com/example/ferrule/ferrule/jacdac/bus/WireKind" = some m.cls := findClass_of_methodNamed Bd.named
  have hnm := (name_of_methodNamed Bd.named Bd.method).1
  have hlk : meth.locks = false := BodyLoose.notSynchronized Bd
  have X0 : Stand p l e ({ frames := 0, cells := 0, slots := 0, locals := 0 } : Room) s m #[.int p1, .int p2] below meth c s₁ [] 0 0 := Stand.of_body Bd
  have e0 : s₁.heap = h0 := by rw [← hh, Bd.state]; rfl
  show own_Go p e below s 0 0 (own_P (.ref (own_f1 p1 p2 kCOMMAND kEVENT kREPORT kGET kREGISTER kSET)) h0) (s₁.setTop (entryFrame m #[.int p1, .int p2] 2))
  rw [own_ef1]
  refine own_iloadN X0 hx (hb hby own_d1_0) (q := 1) rfl rfl ?_
  refine own_ldc X0 hx hZ hown (hw _ (List.mem_of_getElem? (i := 4) rfl)) (hb hby own_d1_1) (q := 3) rfl ?_
  refine own_iand X0 hx (hb hby own_d1_3) (q := 4) rfl ?_
  refine own_if0P X0 hx (hb hby own_d1_4) (cd := .eq) (x := p1 &&& (32768 : Int32)) (pt := 11) (q := 7) (by decide) (by decide) rfl rfl (fun (c1 : (p1 &&& (32768 : Int32)) = (0 : Int32)) => ?_) (fun (c1 : ¬ ((p1 &&& (32768 : Int32)) = (0 : Int32))) => ?_)
  · refine own_iloadN X0 hx (hb hby own_d1_11) (q := 12) rfl rfl ?_
    refine own_ldc X0 hx hZ hown (hw _ (List.mem_of_getElem? (i := 5) rfl)) (hb hby own_d1_12) (q := 14) rfl ?_
    refine own_iand X0 hx (hb hby own_d1_14) (q := 15) rfl ?_
    by_cases c2 : (p1 &&& (61440 : Int32)) = (4096 : Int32)
    · refine own_lswHit X0 hx c2 (hb hby own_d1_15) (by decide) (b := 4096) (off := 25) (by decide) (q := 40) (by decide) (by decide) ?_
      refine own_iloadN X0 hx (hb hby own_d1_40) (q := 41) rfl rfl ?_
      refine own_if0P X0 hx (hb hby own_d1_41) (cd := .eq) (x := p2) (pt := 50) (q := 44) (by decide) (by decide) rfl rfl (fun (c3 : p2 = (0 : Int32)) => ?_) (fun (c3 : ¬ (p2 = (0 : Int32))) => ?_)
      · refine own_getS X0 hx hZ hown (hw _ (List.mem_of_getElem? (i := 18) rfl)) Via.refl e0 S4p (hb hby own_d1_50) (q := 53) rfl (fun T1 X2 e3 => ?_)
        refine own_goto X2 hx (hb hby own_d1_53) (q := 75) (by decide) (by decide) ?_
        refine own_retA X2 hx hlk rfl rfl rfl Bd.returns (hb hby own_d1_75) ?_ (by decide) (by decide)
        have r : own_f1 p1 p2 kCOMMAND kEVENT kREPORT kGET kREGISTER kSET = kREGISTER := by rw [own_f1, if_pos c1, if_pos c2, if_pos c3]
        exact ⟨by rw [r] <;> rfl, e3, rfl⟩
      · refine own_getS X0 hx hZ hown (hw _ (List.mem_of_getElem? (i := 15) rfl)) Via.refl e0 S3p (hb hby own_d1_44) (q := 47) rfl (fun T4 X5 e6 => ?_)
        refine own_goto X5 hx (hb hby own_d1_47) (q := 75) (by decide) (by decide) ?_
        refine own_retA X5 hx hlk rfl rfl rfl Bd.returns (hb hby own_d1_75) ?_ (by decide) (by decide)
        have r : own_f1 p1 p2 kCOMMAND kEVENT kREPORT kGET kREGISTER kSET = kGET := by rw [own_f1, if_pos c1, if_pos c2, if_neg c3]
        exact ⟨by rw [r] <;> rfl, e6, rfl⟩
    · by_cases c4 : (p1 &&& (61440 : Int32)) = (8192 : Int32)
      · refine own_lswHit X0 hx c4 (hb hby own_d1_15) (by decide) (b := 8192) (off := 41) (by decide) (q := 56) (by decide) (by decide) ?_
        refine own_getS X0 hx hZ hown (hw _ (List.mem_of_getElem? (i := 21) rfl)) Via.refl e0 S5p (hb hby own_d1_56) (q := 59) rfl (fun T7 X8 e9 => ?_)
        refine own_goto X8 hx (hb hby own_d1_59) (q := 75) (by decide) (by decide) ?_
        refine own_retA X8 hx hlk rfl rfl rfl Bd.returns (hb hby own_d1_75) ?_ (by decide) (by decide)
        have r : own_f1 p1 p2 kCOMMAND kEVENT kREPORT kGET kREGISTER kSET = kSET := by rw [own_f1, if_pos c1, if_neg c2, if_pos c4]
        exact ⟨by rw [r] <;> rfl, e9, rfl⟩
      · have hmiss : (#[(4096, 25), (8192, 41)] : Array (Int × Int)).find? (·.1 == (p1 &&& (61440 : Int32)).toInt) = none := find_miss (by
          intro p hp
          have hp : p ∈ [((4096 : Int), (25 : Int)), ((8192 : Int), (41 : Int))] := hp
          simp only [List.mem_cons, List.not_mem_nil, or_false] at hp
          rcases hp with rfl | rfl
          · exact fun h => c2 (Int32.toInt_inj.mp (h.symm.trans (by decide : (4096 : Int) = (4096 : Int32).toInt)))
          · exact fun h => c4 (Int32.toInt_inj.mp (h.symm.trans (by decide : (8192 : Int) = (8192 : Int32).toInt))))
        refine own_lswMiss X0 hx hmiss (hb hby own_d1_15) (by decide) (q := 62) (by decide) (by decide) ?_
        refine own_iloadN X0 hx (hb hby own_d1_62) (q := 63) rfl rfl ?_
        refine own_if0P X0 hx (hb hby own_d1_63) (cd := .eq) (x := p2) (pt := 72) (q := 66) (by decide) (by decide) rfl rfl (fun (c5 : p2 = (0 : Int32)) => ?_) (fun (c5 : ¬ (p2 = (0 : Int32))) => ?_)
        · refine own_getS X0 hx hZ hown (hw _ (List.mem_of_getElem? (i := 12) rfl)) Via.refl e0 S2p (hb hby own_d1_72) (q := 75) rfl (fun T10 X11 e12 => ?_)
          refine own_retA X11 hx hlk rfl rfl rfl Bd.returns (hb hby own_d1_75) ?_ (by decide) (by decide)
          have r : own_f1 p1 p2 kCOMMAND kEVENT kREPORT kGET kREGISTER kSET = kREPORT := by rw [own_f1, if_pos c1, if_neg c2, if_neg c4, if_pos c5]
          exact ⟨by rw [r] <;> rfl, e12, rfl⟩
        · refine own_getS X0 hx hZ hown (hw _ (List.mem_of_getElem? (i := 6) rfl)) Via.refl e0 S0p (hb hby own_d1_66) (q := 69) rfl (fun T13 X14 e15 => ?_)
          refine own_goto X14 hx (hb hby own_d1_69) (q := 75) (by decide) (by decide) ?_
          refine own_retA X14 hx hlk rfl rfl rfl Bd.returns (hb hby own_d1_75) ?_ (by decide) (by decide)
          have r : own_f1 p1 p2 kCOMMAND kEVENT kREPORT kGET kREGISTER kSET = kCOMMAND := by rw [own_f1, if_pos c1, if_neg c2, if_neg c4, if_neg c5]
          exact ⟨by rw [r] <;> rfl, e15, rfl⟩
  · refine own_getS X0 hx hZ hown (hw _ (List.mem_of_getElem? (i := 9) rfl)) Via.refl e0 S1p (hb hby own_d1_7) (q := 10) rfl (fun T16 X17 e18 => ?_)
    refine own_retA X17 hx hlk rfl rfl rfl Bd.returns (hb hby own_d1_10) ?_ (by decide) (by decide)
    have r : own_f1 p1 p2 kCOMMAND kEVENT kREPORT kGET kREGISTER kSET = kEVENT := by rw [own_f1, if_neg c1]
    exact ⟨by rw [r] <;> rfl, e18, rfl⟩
theorem own_andhi (n k w : Nat) : n &&& (2 ^ k * (2 ^ w - 1)) = 2 ^ k * (n / 2 ^ k % 2 ^ w) := by
  have h1 : (n &&& (2 ^ k * (2 ^ w - 1))) >>> k = (n >>> k) &&& ((2 ^ k * (2 ^ w - 1)) >>> k) := Nat.shiftRight_and_distrib
  have h2 : (n &&& (2 ^ k * (2 ^ w - 1))) % 2 ^ k = (n % 2 ^ k) &&& ((2 ^ k * (2 ^ w - 1)) % 2 ^ k) := Nat.and_mod_two_pow
  rw [Nat.mul_mod_right, Nat.and_zero] at h2
  simp only [Nat.shiftRight_eq_div_pow] at h1
  rw [Nat.mul_div_cancel_left _ (Nat.two_pow_pos k), Nat.and_two_pow_sub_one_eq_mod] at h1
  have h3 := Nat.div_add_mod (n &&& (2 ^ k * (2 ^ w - 1))) (2 ^ k)
  rw [h1, h2] at h3
  exact h3.symm
theorem own_bits (x : Int32) (m : Int32) (k w : Nat) (hm : m.toBitVec.toNat = 2 ^ k * (2 ^ w - 1)) (hlt : k + w ≤ 31) : (x &&& m).toInt = (2 ^ k * (x.toBitVec.toNat / 2 ^ k % 2 ^ w) : Nat) := by
  have h1 : (x &&& m).toBitVec.toNat = 2 ^ k * (x.toBitVec.toNat / 2 ^ k % 2 ^ w) := by
    rw [Int32.toBitVec_and, BitVec.toNat_and, hm, own_andhi]
  have h2 : x.toBitVec.toNat / 2 ^ k % 2 ^ w < 2 ^ w := Nat.mod_lt _ (Nat.two_pow_pos w)
  have h3 : 2 ^ k * (x.toBitVec.toNat / 2 ^ k % 2 ^ w) < 2 ^ 31 := by
    calc 2 ^ k * (x.toBitVec.toNat / 2 ^ k % 2 ^ w) < 2 ^ k * 2 ^ w := Nat.mul_lt_mul_of_pos_left h2 (Nat.two_pow_pos k)
      _ = 2 ^ (k + w) := (Nat.pow_add 2 k w).symm
      _ ≤ 2 ^ 31 := Nat.pow_le_pow_right (by decide) hlt
  show (x &&& m).toBitVec.toInt = _
  rw [BitVec.toInt_eq_toNat_cond, h1, if_pos (by omega)]
theorem own_nib (x : Int32) : (XT.ushr x 12 &&& 15).toInt = ((x.toBitVec.toNat / 4096 % 16 : Nat) : Int) := by
  have h1 : (XT.ushr x 12).toInt = (x.toInt % 4294967296) / (2 ^ 12 : Nat) := c_iushr x 12 12 (by decide) (by decide)
  have h2 := c_mask (XT.ushr x 12) 15 4 (by decide) (by decide)
  have h3 : x.toInt % 4294967296 = (x.toBitVec.toNat : Int) := by
    show x.toBitVec.toInt % 4294967296 = _
    have := x.toBitVec.isLt
    rw [BitVec.toInt_eq_toNat_cond]; split <;> omega
  rw [h2, h1, h3]; omega
theorem own_of (x t : Int32) (kC kE kR kG kT kS : Addr) :
    own_f1 x t kC kE kR kG kT kS = (if (XT.ushr x 12 &&& 15) < 8 then (if (XT.ushr x 12 &&& 15) = 1 then (if t = 0 then kT else kG) else (if (XT.ushr x 12 &&& 15) = 2 then kS else (if t = 0 then kR else kC))) else kE) := by
  have h1 := own_bits x 32768 15 1 (by decide) (by decide)
  have h2 := own_bits x 61440 12 4 (by decide) (by decide)
  have h3 := own_nib x
  unfold own_f1
  have e1 : (x &&& 32768 = 0) ↔ (XT.ushr x 12 &&& 15) < 8 := by
    rw [Int32.lt_iff_toInt_lt, ← Int32.toInt_inj, h1, h3]; simp only [Int32.reduceToInt]; omega
  have e2 : (x &&& 61440 = 4096) ↔ (XT.ushr x 12 &&& 15) = 1 := by
    rw [← Int32.toInt_inj, ← Int32.toInt_inj, h2, h3]; simp only [Int32.reduceToInt]; omega
  have e3 : (x &&& 61440 = 8192) ↔ (XT.ushr x 12 &&& 15) = 2 := by
    rw [← Int32.toInt_inj, ← Int32.toInt_inj, h2, h3]; simp only [Int32.reduceToInt]; omega
  simp only [e1, e2, e3]
theorem own_pd0 : parseMethodDescriptor "(IZ)Lcom/example/ferrule/ferrule/jacdac/bus/WireKind;" = some ⟨[.int, .boolean], some (.object "com/example/ferrule/ferrule/jacdac/bus/WireKind")⟩ := by decide +kernel
theorem own_pn2 : plainName "com/example/ferrule/ferrule/jacdac/bus/WireKindOfPinLaw" = true := by first | (simp [plainName, overriddenIn]; done) | decide +kernel
theorem own_ef0 (m : MethodId) (p1 : Int32) (p2 : Int32) : entryFrame m #[.int p1, .int p2] maxLocals = mkF m 0 #[.val (.int p1), .val (.int p2), .unset, .unset, .unset, .unset] [] := by first | (simp [entryFrame, mkF, argsToLocals, Value.category, maxLocals]; done) | rfl
def own_Q0 (n0 : Nat) (v : Option Value) (h : Heap) (L : List Loc) : Prop := v = some (.int 1) ∧ Fr n0 L
set_option maxRecDepth 65536 in
set_option maxHeartbeats 40000000 in
theorem rm0 (l : Launch) (Z : State) (a0 : Array Value) (hw : ∀ d ∈ tables_1, d.before a0 Z = true) (ws : List Jvm.Cond) (p1 : Int32) (p2 : Int32) (h0 : Heap) (n0 : Nat) (Z0 : n0 ≤ h0.size) {s0 s1 s2 s3 s4 s5 : Addr} (ES0 : Exa Z h0 s0 "com/example/ferrule/ferrule/jacdac/bus/WireKind") (SS0 : Sta Z h0 "com/example/ferrule/ferrule/jacdac/bus/WireKind" "COMMAND" "Lcom/example/ferrule/ferrule/jacdac/bus/WireKind;" (.ref s0)) (ES1 : Exa Z h0 s1 "com/example/ferrule/ferrule/jacdac/bus/WireKind") (SS1 : Sta Z h0 "com/example/ferrule/ferrule/jacdac/bus/WireKind" "EVENT" "Lcom/example/ferrule/ferrule/jacdac/bus/WireKind;" (.ref s1)) (ES2 : Exa Z h0 s2 "com/example/ferrule/ferrule/jacdac/bus/WireKind") (SS2 : Sta Z h0 "com/example/ferrule/ferrule/jacdac/bus/WireKind" "REPORT" "Lcom/example/ferrule/ferrule/jacdac/bus/WireKind;" (.ref s2)) (ES3 : Exa Z h0 s3 "com/example/ferrule/ferrule/jacdac/bus/WireKind") (SS3 : Sta Z h0 "com/example/ferrule/ferrule/jacdac/bus/WireKind" "GET" "Lcom/example/ferrule/ferrule/jacdac/bus/WireKind;" (.ref s3)) (ES4 : Exa Z h0 s4 "com/example/ferrule/ferrule/jacdac/bus/WireKind") (SS4 : Sta Z h0 "com/example/ferrule/ferrule/jacdac/bus/WireKind" "REGISTER" "Lcom/example/ferrule/ferrule/jacdac/bus/WireKind;" (.ref s4)) (ES5 : Exa Z h0 s5 "com/example/ferrule/ferrule/jacdac/bus/WireKind") (SS5 : Sta Z h0 "com/example/ferrule/ferrule/jacdac/bus/WireKind" "SET" "Lcom/example/ferrule/ferrule/jacdac/bus/WireKind;" (.ref s5)) :
    MetFree l x (head1 (Jvm.Cond.code x code maxLocals ret :: ws) room_1) (fun a U => a = #[.int p1, .int p2] ∧ Z.Warmed39 U.vm ∧ U.heap = h0) (fun _ _ _ _ _ => True) (fun _ U o U' => ∃ v L, o = .returned v ∧ own_Q0 n0 v U'.heap L ∧ FrameEnd U o U' L 0 0) := by
  refine MetFree.of_bodySF (plainFor_of_name own_pn2) hisR ?_
  intro p e s m args below meth c s₁ Bd hml0 hP hK
  obtain ⟨rfl, hZ, hh⟩ := hP
  have hx := Bd.exec
  have hby := Bd.bytes
  have hml : c.maxLocals = 6 := hml0
  have hown : s.vm.findClass "com/example/ferrule/ferrule/jacdac/bus/WireKindOfPinLaw" = some m.cls := findClass_of_methodNamed Bd.named
  have hnm := (name_of_methodNamed Bd.named Bd.method).1
  have hlk : meth.locks = false := BodyLoose.notSynchronized Bd
  have X0 : Stand p l e room_1 s m #[.int p1, .int p2] below meth c s₁ [] 0 0 := Stand.of_body Bd
  have e0 : s₁.heap = h0 := by rw [← hh, Bd.state]; rfl
  have N0 := Fr.nil n0
  show own_Go p e below s 0 0 (own_Q0 n0) (s₁.setTop (entryFrame m #[.int p1, .int p2] maxLocals))
  rw [own_ef0]
  refine own_iloadN X0 hx (hb hby at_0) (q := 1) rfl rfl ?_
  refine own_iconst X0 hx (v := (1 : Int32)) (hb hby at_1) (q := 2) rfl rfl ?_
  refine own_iand X0 hx (hb hby at_2) (q := 3) rfl ?_
  refine own_if0P X0 hx (hb hby at_3) (cd := .eq) (x := p2 &&& (1 : Int32)) (pt := 10) (q := 6) (by decide) (by decide) rfl rfl (fun (c1 : (p2 &&& (1 : Int32)) = (0 : Int32)) => ?_) (fun (c1 : ¬ ((p2 &&& (1 : Int32)) = (0 : Int32))) => ?_)
  · refine own_iconst X0 hx (v := (0 : Int32)) (hb hby at_10) (q := 11) rfl rfl ?_
    refine own_istoreN (L' := #[.val (.int p1), .val (.int p2), .val (.int (0 : Int32)), .unset, .unset, .unset]) X0 hx (hb hby at_11) (q := 12) rfl rfl ?_
    refine own_iloadN X0 hx (hb hby at_12) (q := 13) rfl rfl ?_
    refine own_iloadN X0 hx (hb hby at_13) (q := 14) rfl rfl ?_
    refine own_callSP X0 hx hZ hown (hw _ (List.mem_of_getElem? (i := 0) rfl)) (hw _ (List.mem_of_getElem? (i := 1) rfl)) (hw _ (List.mem_of_getElem? (i := 2) rfl)) (hw _ (List.mem_of_getElem? (i := 3) rfl)) (by decide) (rm1 l Z a0 hw [] p1 (0 : Int32) s0 s1 s2 s3 s4 s5 h0 SS0 SS1 SS2 SS3 SS4 SS5) own_pd0 rfl e0 (by rw [hml]; rfl) (argsL := [.int p1, .int (0 : Int32)]) (st := []) rfl (W := 0) (Nat.le_of_eq rfl) (by decide) (by decide) (by decide) (by decide) (hb hby at_14) (q := 17) rfl (fun T19 X20 e21 => ?_)
    refine own_astoreN (L' := #[.val (.int p1), .val (.int p2), .val (.int (0 : Int32)), .val (.ref (own_f1 p1 (0 : Int32) s0 s1 s2 s3 s4 s5)), .unset, .unset]) X20 hx (hb hby at_17) (q := 18) rfl rfl rfl ?_
    refine own_iloadN X20 hx (hb hby at_18) (q := 19) rfl rfl ?_
    refine own_bipush X20 hx (v := (12 : Int32)) (hb hby at_19) (q := 21) rfl rfl ?_
    refine own_iushr X20 hx (hb hby at_21) (q := 22) rfl ?_
    refine own_bipush X20 hx (v := (15 : Int32)) (hb hby at_22) (q := 24) rfl rfl ?_
    refine own_iand X20 hx (hb hby at_24) (q := 25) rfl ?_
    refine own_istore (L' := #[.val (.int p1), .val (.int p2), .val (.int (0 : Int32)), .val (.ref (own_f1 p1 (0 : Int32) s0 s1 s2 s3 s4 s5)), .val (.int ((XT.ushr p1 (12 : Int32)) &&& (15 : Int32))), .unset]) X20 hx (hb hby at_25) (q := 27) rfl rfl ?_
    refine own_iload X20 hx (hb hby at_27) (q := 29) rfl rfl ?_
    refine own_bipush X20 hx (v := (8 : Int32)) (hb hby at_29) (q := 31) rfl rfl ?_
    refine own_icmpP X20 hx (hb hby at_31) (cd := .lt) (x := (XT.ushr p1 (12 : Int32)) &&& (15 : Int32)) (y := (8 : Int32)) (pt := 42) (q := 34) (by decide) (by decide) rfl rfl (fun (c2 : ((XT.ushr p1 (12 : Int32)) &&& (15 : Int32)) < (8 : Int32)) => ?_) (fun (c2 : ¬ (((XT.ushr p1 (12 : Int32)) &&& (15 : Int32)) < (8 : Int32))) => ?_)
    · refine own_iload X20 hx (hb hby at_42) (q := 44) rfl rfl ?_
      refine own_iconst X20 hx (v := (1 : Int32)) (hb hby at_44) (q := 45) rfl rfl ?_
      refine own_icmpM X20 hx (hb hby at_45) (cd := .ne) (x := (XT.ushr p1 (12 : Int32)) &&& (15 : Int32)) (y := (1 : Int32)) (pt := 66) (q := 48) (by decide) (by decide) rfl rfl (fun (c3 : ¬ (((XT.ushr p1 (12 : Int32)) &&& (15 : Int32)) = (1 : Int32))) => ?_) (fun (c3 : ((XT.ushr p1 (12 : Int32)) &&& (15 : Int32)) = (1 : Int32)) => ?_)
      · refine own_iload X20 hx (hb hby at_66) (q := 68) rfl rfl ?_
        refine own_iconst X20 hx (v := (2 : Int32)) (hb hby at_68) (q := 69) rfl rfl ?_
        refine own_icmpM X20 hx (hb hby at_69) (cd := .ne) (x := (XT.ushr p1 (12 : Int32)) &&& (15 : Int32)) (y := (2 : Int32)) (pt := 80) (q := 72) (by decide) (by decide) rfl rfl (fun (c4 : ¬ (((XT.ushr p1 (12 : Int32)) &&& (15 : Int32)) = (2 : Int32))) => ?_) (fun (c4 : ((XT.ushr p1 (12 : Int32)) &&& (15 : Int32)) = (2 : Int32)) => ?_)
        · refine own_iloadN X20 hx (hb hby at_80) (q := 81) rfl rfl ?_
          refine own_if0P X20 hx (hb hby at_81) (cd := .eq) (x := (0 : Int32)) (pt := 90) (q := 84) (by decide) (by decide) rfl rfl (fun _ => ?_) (fun h => False.elim (h ((by decide) : (0 : Int32) = (0 : Int32))))
          refine own_getS X20 hx hZ hown (hw _ (List.mem_of_getElem? (i := 14) rfl)) Via.refl e21 SS2 (hb hby at_90) (q := 93) rfl (fun T22 X23 e24 => ?_)
          refine own_astore (L' := #[.val (.int p1), .val (.int p2), .val (.int (0 : Int32)), .val (.ref (own_f1 p1 (0 : Int32) s0 s1 s2 s3 s4 s5)), .val (.int ((XT.ushr p1 (12 : Int32)) &&& (15 : Int32))), .val (.ref s2)]) X23 hx (hb hby at_93) (q := 95) rfl rfl rfl ?_
          refine own_aloadN X23 hx (hb hby at_95) (q := 96) rfl rfl rfl ?_
          refine own_aload X23 hx (hb hby at_96) (q := 98) rfl rfl rfl ?_
          refine own_acmp X23 hx (cd := .ne) (v := .ref (own_f1 p1 (0 : Int32) s0 s1 s2 s3 s4 s5)) (w := .ref s2) (same := true) rfl rfl (hb hby at_98) (by rw [own_of, if_pos c2, if_neg c3, if_neg c4, if_pos rfl] <;> exact decide_eq_true rfl) (by decide) (q := 101) (by decide) ?_
          refine own_iconst X23 hx (v := (1 : Int32)) (hb hby at_101) (q := 102) rfl rfl ?_
          refine own_goto X23 hx (hb hby at_102) (q := 106) (by decide) (by decide) ?_
          refine own_retN X23 hx hlk (t := .boolean) (by simp) Bd.returns (hb hby at_106) ?_ (by decide) (by decide)
          exact ⟨rfl, N0⟩
        · refine own_getS X20 hx hZ hown (hw _ (List.mem_of_getElem? (i := 23) rfl)) Via.refl e21 SS5 (hb hby at_72) (q := 75) rfl (fun T25 X26 e27 => ?_)
          refine own_astore (L' := #[.val (.int p1), .val (.int p2), .val (.int (0 : Int32)), .val (.ref (own_f1 p1 (0 : Int32) s0 s1 s2 s3 s4 s5)), .val (.int ((XT.ushr p1 (12 : Int32)) &&& (15 : Int32))), .val (.ref s5)]) X26 hx (hb hby at_75) (q := 77) rfl rfl rfl ?_
          refine own_goto X26 hx (hb hby at_77) (q := 95) (by decide) (by decide) ?_
          refine own_aloadN X26 hx (hb hby at_95) (q := 96) rfl rfl rfl ?_
          refine own_aload X26 hx (hb hby at_96) (q := 98) rfl rfl rfl ?_
          refine own_acmp X26 hx (cd := .ne) (v := .ref (own_f1 p1 (0 : Int32) s0 s1 s2 s3 s4 s5)) (w := .ref s5) (same := true) rfl rfl (hb hby at_98) (by rw [own_of, if_pos c2, if_neg c3, if_pos c4] <;> exact decide_eq_true rfl) (by decide) (q := 101) (by decide) ?_
          refine own_iconst X26 hx (v := (1 : Int32)) (hb hby at_101) (q := 102) rfl rfl ?_
          refine own_goto X26 hx (hb hby at_102) (q := 106) (by decide) (by decide) ?_
          refine own_retN X26 hx hlk (t := .boolean) (by simp) Bd.returns (hb hby at_106) ?_ (by decide) (by decide)
          exact ⟨rfl, N0⟩
      · refine own_iloadN X20 hx (hb hby at_48) (q := 49) rfl rfl ?_
        refine own_if0P X20 hx (hb hby at_49) (cd := .eq) (x := (0 : Int32)) (pt := 58) (q := 52) (by decide) (by decide) rfl rfl (fun _ => ?_) (fun h => False.elim (h ((by decide) : (0 : Int32) = (0 : Int32))))
        refine own_getS X20 hx hZ hown (hw _ (List.mem_of_getElem? (i := 20) rfl)) Via.refl e21 SS4 (hb hby at_58) (q := 61) rfl (fun T28 X29 e30 => ?_)
        refine own_astore (L' := #[.val (.int p1), .val (.int p2), .val (.int (0 : Int32)), .val (.ref (own_f1 p1 (0 : Int32) s0 s1 s2 s3 s4 s5)), .val (.int ((XT.ushr p1 (12 : Int32)) &&& (15 : Int32))), .val (.ref s4)]) X29 hx (hb hby at_61) (q := 63) rfl rfl rfl ?_
        refine own_goto X29 hx (hb hby at_63) (q := 95) (by decide) (by decide) ?_
        refine own_aloadN X29 hx (hb hby at_95) (q := 96) rfl rfl rfl ?_
        refine own_aload X29 hx (hb hby at_96) (q := 98) rfl rfl rfl ?_
        refine own_acmp X29 hx (cd := .ne) (v := .ref (own_f1 p1 (0 : Int32) s0 s1 s2 s3 s4 s5)) (w := .ref s4) (same := true) rfl rfl (hb hby at_98) (by rw [own_of, if_pos c2, if_pos c3, if_pos rfl] <;> exact decide_eq_true rfl) (by decide) (q := 101) (by decide) ?_
        refine own_iconst X29 hx (v := (1 : Int32)) (hb hby at_101) (q := 102) rfl rfl ?_
        refine own_goto X29 hx (hb hby at_102) (q := 106) (by decide) (by decide) ?_
        refine own_retN X29 hx hlk (t := .boolean) (by simp) Bd.returns (hb hby at_106) ?_ (by decide) (by decide)
        exact ⟨rfl, N0⟩
    · refine own_getS X20 hx hZ hown (hw _ (List.mem_of_getElem? (i := 11) rfl)) Via.refl e21 SS1 (hb hby at_34) (q := 37) rfl (fun T31 X32 e33 => ?_)
      refine own_astore (L' := #[.val (.int p1), .val (.int p2), .val (.int (0 : Int32)), .val (.ref (own_f1 p1 (0 : Int32) s0 s1 s2 s3 s4 s5)), .val (.int ((XT.ushr p1 (12 : Int32)) &&& (15 : Int32))), .val (.ref s1)]) X32 hx (hb hby at_37) (q := 39) rfl rfl rfl ?_
      refine own_goto X32 hx (hb hby at_39) (q := 95) (by decide) (by decide) ?_
      refine own_aloadN X32 hx (hb hby at_95) (q := 96) rfl rfl rfl ?_
      refine own_aload X32 hx (hb hby at_96) (q := 98) rfl rfl rfl ?_
      refine own_acmp X32 hx (cd := .ne) (v := .ref (own_f1 p1 (0 : Int32) s0 s1 s2 s3 s4 s5)) (w := .ref s1) (same := true) rfl rfl (hb hby at_98) (by rw [own_of, if_neg c2] <;> exact decide_eq_true rfl) (by decide) (q := 101) (by decide) ?_
      refine own_iconst X32 hx (v := (1 : Int32)) (hb hby at_101) (q := 102) rfl rfl ?_
      refine own_goto X32 hx (hb hby at_102) (q := 106) (by decide) (by decide) ?_
      refine own_retN X32 hx hlk (t := .boolean) (by simp) Bd.returns (hb hby at_106) ?_ (by decide) (by decide)
      exact ⟨rfl, N0⟩
  · refine own_iconst X0 hx (v := (1 : Int32)) (hb hby at_6) (q := 7) rfl rfl ?_
    refine own_goto X0 hx (hb hby at_7) (q := 11) (by decide) (by decide) ?_
    refine own_istoreN (L' := #[.val (.int p1), .val (.int p2), .val (.int (1 : Int32)), .unset, .unset, .unset]) X0 hx (hb hby at_11) (q := 12) rfl rfl ?_
    refine own_iloadN X0 hx (hb hby at_12) (q := 13) rfl rfl ?_
    refine own_iloadN X0 hx (hb hby at_13) (q := 14) rfl rfl ?_
    refine own_callSP X0 hx hZ hown (hw _ (List.mem_of_getElem? (i := 0) rfl)) (hw _ (List.mem_of_getElem? (i := 1) rfl)) (hw _ (List.mem_of_getElem? (i := 2) rfl)) (hw _ (List.mem_of_getElem? (i := 3) rfl)) (by decide) (rm1 l Z a0 hw [] p1 (1 : Int32) s0 s1 s2 s3 s4 s5 h0 SS0 SS1 SS2 SS3 SS4 SS5) own_pd0 rfl e0 (by rw [hml]; rfl) (argsL := [.int p1, .int (1 : Int32)]) (st := []) rfl (W := 0) (Nat.le_of_eq rfl) (by decide) (by decide) (by decide) (by decide) (hb hby at_14) (q := 17) rfl (fun T34 X35 e36 => ?_)
    refine own_astoreN (L' := #[.val (.int p1), .val (.int p2), .val (.int (1 : Int32)), .val (.ref (own_f1 p1 (1 : Int32) s0 s1 s2 s3 s4 s5)), .unset, .unset]) X35 hx (hb hby at_17) (q := 18) rfl rfl rfl ?_
    refine own_iloadN X35 hx (hb hby at_18) (q := 19) rfl rfl ?_
    refine own_bipush X35 hx (v := (12 : Int32)) (hb hby at_19) (q := 21) rfl rfl ?_
    refine own_iushr X35 hx (hb hby at_21) (q := 22) rfl ?_
    refine own_bipush X35 hx (v := (15 : Int32)) (hb hby at_22) (q := 24) rfl rfl ?_
    refine own_iand X35 hx (hb hby at_24) (q := 25) rfl ?_
    refine own_istore (L' := #[.val (.int p1), .val (.int p2), .val (.int (1 : Int32)), .val (.ref (own_f1 p1 (1 : Int32) s0 s1 s2 s3 s4 s5)), .val (.int ((XT.ushr p1 (12 : Int32)) &&& (15 : Int32))), .unset]) X35 hx (hb hby at_25) (q := 27) rfl rfl ?_
    refine own_iload X35 hx (hb hby at_27) (q := 29) rfl rfl ?_
    refine own_bipush X35 hx (v := (8 : Int32)) (hb hby at_29) (q := 31) rfl rfl ?_
    refine own_icmpP X35 hx (hb hby at_31) (cd := .lt) (x := (XT.ushr p1 (12 : Int32)) &&& (15 : Int32)) (y := (8 : Int32)) (pt := 42) (q := 34) (by decide) (by decide) rfl rfl (fun (c7 : ((XT.ushr p1 (12 : Int32)) &&& (15 : Int32)) < (8 : Int32)) => ?_) (fun (c7 : ¬ (((XT.ushr p1 (12 : Int32)) &&& (15 : Int32)) < (8 : Int32))) => ?_)
    · refine own_iload X35 hx (hb hby at_42) (q := 44) rfl rfl ?_
      refine own_iconst X35 hx (v := (1 : Int32)) (hb hby at_44) (q := 45) rfl rfl ?_
      refine own_icmpM X35 hx (hb hby at_45) (cd := .ne) (x := (XT.ushr p1 (12 : Int32)) &&& (15 : Int32)) (y := (1 : Int32)) (pt := 66) (q := 48) (by decide) (by decide) rfl rfl (fun (c8 : ¬ (((XT.ushr p1 (12 : Int32)) &&& (15 : Int32)) = (1 : Int32))) => ?_) (fun (c8 : ((XT.ushr p1 (12 : Int32)) &&& (15 : Int32)) = (1 : Int32)) => ?_)
      · refine own_iload X35 hx (hb hby at_66) (q := 68) rfl rfl ?_
        refine own_iconst X35 hx (v := (2 : Int32)) (hb hby at_68) (q := 69) rfl rfl ?_
        refine own_icmpM X35 hx (hb hby at_69) (cd := .ne) (x := (XT.ushr p1 (12 : Int32)) &&& (15 : Int32)) (y := (2 : Int32)) (pt := 80) (q := 72) (by decide) (by decide) rfl rfl (fun (c9 : ¬ (((XT.ushr p1 (12 : Int32)) &&& (15 : Int32)) = (2 : Int32))) => ?_) (fun (c9 : ((XT.ushr p1 (12 : Int32)) &&& (15 : Int32)) = (2 : Int32)) => ?_)
        · refine own_iloadN X35 hx (hb hby at_80) (q := 81) rfl rfl ?_
          refine own_if0P X35 hx (hb hby at_81) (cd := .eq) (x := (1 : Int32)) (pt := 90) (q := 84) (by decide) (by decide) rfl rfl (fun h => False.elim (((by decide) : ¬ ((1 : Int32) = (0 : Int32))) h)) (fun _ => ?_)
          refine own_getS X35 hx hZ hown (hw _ (List.mem_of_getElem? (i := 8) rfl)) Via.refl e36 SS0 (hb hby at_84) (q := 87) rfl (fun T37 X38 e39 => ?_)
          refine own_goto X38 hx (hb hby at_87) (q := 93) (by decide) (by decide) ?_
          refine own_astore (L' := #[.val (.int p1), .val (.int p2), .val (.int (1 : Int32)), .val (.ref (own_f1 p1 (1 : Int32) s0 s1 s2 s3 s4 s5)), .val (.int ((XT.ushr p1 (12 : Int32)) &&& (15 : Int32))), .val (.ref s0)]) X38 hx (hb hby at_93) (q := 95) rfl rfl rfl ?_
          refine own_aloadN X38 hx (hb hby at_95) (q := 96) rfl rfl rfl ?_
          refine own_aload X38 hx (hb hby at_96) (q := 98) rfl rfl rfl ?_
          refine own_acmp X38 hx (cd := .ne) (v := .ref (own_f1 p1 (1 : Int32) s0 s1 s2 s3 s4 s5)) (w := .ref s0) (same := true) rfl rfl (hb hby at_98) (by rw [own_of, if_pos c7, if_neg c8, if_neg c9, if_neg (by decide)] <;> exact decide_eq_true rfl) (by decide) (q := 101) (by decide) ?_
          refine own_iconst X38 hx (v := (1 : Int32)) (hb hby at_101) (q := 102) rfl rfl ?_
          refine own_goto X38 hx (hb hby at_102) (q := 106) (by decide) (by decide) ?_
          refine own_retN X38 hx hlk (t := .boolean) (by simp) Bd.returns (hb hby at_106) ?_ (by decide) (by decide)
          exact ⟨rfl, N0⟩
        · refine own_getS X35 hx hZ hown (hw _ (List.mem_of_getElem? (i := 23) rfl)) Via.refl e36 SS5 (hb hby at_72) (q := 75) rfl (fun T40 X41 e42 => ?_)
          refine own_astore (L' := #[.val (.int p1), .val (.int p2), .val (.int (1 : Int32)), .val (.ref (own_f1 p1 (1 : Int32) s0 s1 s2 s3 s4 s5)), .val (.int ((XT.ushr p1 (12 : Int32)) &&& (15 : Int32))), .val (.ref s5)]) X41 hx (hb hby at_75) (q := 77) rfl rfl rfl ?_
          refine own_goto X41 hx (hb hby at_77) (q := 95) (by decide) (by decide) ?_
          refine own_aloadN X41 hx (hb hby at_95) (q := 96) rfl rfl rfl ?_
          refine own_aload X41 hx (hb hby at_96) (q := 98) rfl rfl rfl ?_
          refine own_acmp X41 hx (cd := .ne) (v := .ref (own_f1 p1 (1 : Int32) s0 s1 s2 s3 s4 s5)) (w := .ref s5) (same := true) rfl rfl (hb hby at_98) (by rw [own_of, if_pos c7, if_neg c8, if_pos c9] <;> exact decide_eq_true rfl) (by decide) (q := 101) (by decide) ?_
          refine own_iconst X41 hx (v := (1 : Int32)) (hb hby at_101) (q := 102) rfl rfl ?_
          refine own_goto X41 hx (hb hby at_102) (q := 106) (by decide) (by decide) ?_
          refine own_retN X41 hx hlk (t := .boolean) (by simp) Bd.returns (hb hby at_106) ?_ (by decide) (by decide)
          exact ⟨rfl, N0⟩
      · refine own_iloadN X35 hx (hb hby at_48) (q := 49) rfl rfl ?_
        refine own_if0P X35 hx (hb hby at_49) (cd := .eq) (x := (1 : Int32)) (pt := 58) (q := 52) (by decide) (by decide) rfl rfl (fun h => False.elim (((by decide) : ¬ ((1 : Int32) = (0 : Int32))) h)) (fun _ => ?_)
        refine own_getS X35 hx hZ hown (hw _ (List.mem_of_getElem? (i := 17) rfl)) Via.refl e36 SS3 (hb hby at_52) (q := 55) rfl (fun T43 X44 e45 => ?_)
        refine own_goto X44 hx (hb hby at_55) (q := 61) (by decide) (by decide) ?_
        refine own_astore (L' := #[.val (.int p1), .val (.int p2), .val (.int (1 : Int32)), .val (.ref (own_f1 p1 (1 : Int32) s0 s1 s2 s3 s4 s5)), .val (.int ((XT.ushr p1 (12 : Int32)) &&& (15 : Int32))), .val (.ref s3)]) X44 hx (hb hby at_61) (q := 63) rfl rfl rfl ?_
        refine own_goto X44 hx (hb hby at_63) (q := 95) (by decide) (by decide) ?_
        refine own_aloadN X44 hx (hb hby at_95) (q := 96) rfl rfl rfl ?_
        refine own_aload X44 hx (hb hby at_96) (q := 98) rfl rfl rfl ?_
        refine own_acmp X44 hx (cd := .ne) (v := .ref (own_f1 p1 (1 : Int32) s0 s1 s2 s3 s4 s5)) (w := .ref s3) (same := true) rfl rfl (hb hby at_98) (by rw [own_of, if_pos c7, if_pos c8, if_neg (by decide)] <;> exact decide_eq_true rfl) (by decide) (q := 101) (by decide) ?_
        refine own_iconst X44 hx (v := (1 : Int32)) (hb hby at_101) (q := 102) rfl rfl ?_
        refine own_goto X44 hx (hb hby at_102) (q := 106) (by decide) (by decide) ?_
        refine own_retN X44 hx hlk (t := .boolean) (by simp) Bd.returns (hb hby at_106) ?_ (by decide) (by decide)
        exact ⟨rfl, N0⟩
    · refine own_getS X35 hx hZ hown (hw _ (List.mem_of_getElem? (i := 11) rfl)) Via.refl e36 SS1 (hb hby at_34) (q := 37) rfl (fun T46 X47 e48 => ?_)
      refine own_astore (L' := #[.val (.int p1), .val (.int p2), .val (.int (1 : Int32)), .val (.ref (own_f1 p1 (1 : Int32) s0 s1 s2 s3 s4 s5)), .val (.int ((XT.ushr p1 (12 : Int32)) &&& (15 : Int32))), .val (.ref s1)]) X47 hx (hb hby at_37) (q := 39) rfl rfl rfl ?_
      refine own_goto X47 hx (hb hby at_39) (q := 95) (by decide) (by decide) ?_
      refine own_aloadN X47 hx (hb hby at_95) (q := 96) rfl rfl rfl ?_
      refine own_aload X47 hx (hb hby at_96) (q := 98) rfl rfl rfl ?_
      refine own_acmp X47 hx (cd := .ne) (v := .ref (own_f1 p1 (1 : Int32) s0 s1 s2 s3 s4 s5)) (w := .ref s1) (same := true) rfl rfl (hb hby at_98) (by rw [own_of, if_neg c7] <;> exact decide_eq_true rfl) (by decide) (q := 101) (by decide) ?_
      refine own_iconst X47 hx (v := (1 : Int32)) (hb hby at_101) (q := 102) rfl rfl ?_
      refine own_goto X47 hx (hb hby at_102) (q := 106) (by decide) (by decide) ?_
      refine own_retN X47 hx hlk (t := .boolean) (by simp) Bd.returns (hb hby at_106) ?_ (by decide) (by decide)
      exact ⟨rfl, N0⟩
set_option maxRecDepth 65536 in
set_option maxHeartbeats 40000000 in
theorem comes_1 {Post : Tables → Env → Array Value → State → Outcome → State → Prop} (hpost : ∀ tb e args s v u, (limb_1_1.after args s (.returned v) u = true ∧ limb_1_2.after args s (.returned v) u = true ∧ True) → FrameEnd s (.returned v) u (Jvm.fieldLocs frame_1_writes args s ++ Jvm.arrayLocs frame_1_arrays args s ++ Jvm.staticLocs frame_1_statics s) 0 0 → Post tb e args s (.returned v) u) :
    ArmFor flags0 classFile x code maxLocals ret World_1 tables_1 room_1 Calls_1 rest_1 Pre_1 Post := by
  intro l hfl _ _ p e ha hc hk s m args below hf hA hF happ hP
  obtain ⟨hcalls, hrest, hpre⟩ := hP
  obtain ⟨-, -, -, hnamed, -, -, -, hat⟩ := (Spec.applies_iff hf).mp happ
  obtain ⟨hg, hn⟩ := and_e (Cond.before_iff.mp (show (Jvm.Cond.and given_1 narrow_1).before args s = true from hpre))
  obtain ⟨h1, g0⟩ := and_e hg
  obtain ⟨k0, g1⟩ := and_e g0
  have k1 := g1
  obtain ⟨w0, w1, rfl⟩ : ∃ w0 w1 : Value, args = #[w0, w1] := by
    have hs : args.size = 2 := by simpa [Cond.value, given_1] using h1
    obtain ⟨L⟩ := args
    match L, hs with
    | [w0, w1], _ => exact ⟨w0, w1, rfl⟩
  have hw := fun d (hd : d ∈ tables_1) => atoms_spec (ws := Jvm.Cond.code x code maxLocals ret :: tables_1) hat d (List.mem_cons_of_mem _ hd)
  have hfit : Fit s := fun {y c} hc i hi => by
    obtain ⟨ha, rfl⟩ := Array.getElem?_eq_some_iff.mp hc
    have q := List.all_eq_true.mp ((Array.all_eq_true_iff_forall_mem.mp hF) _ (Array.getElem_mem ha)) i (List.mem_range.mpr hi)
    simpa [Array.getElem?_eq_getElem hi] using q
  obtain ⟨i0, e0⟩ := is_v k0
  obtain rfl : w0 = (.int i0) := Option.some.inj e0
  obtain ⟨i1, e1⟩ := is_v k1
  obtain rfl : w1 = (.int i1) := Option.some.inj e1
  obtain ⟨na0, nr0⟩ := and_e hn
  obtain ⟨na1, nr1⟩ := and_e nr0
  obtain ⟨na2, nr2⟩ := and_e nr1
  obtain ⟨na3, nr3⟩ := and_e nr2
  obtain ⟨na4, nr4⟩ := and_e nr3
  have na5 := nr4
  obtain ⟨s0, ev0⟩ := exa_v na0
  have ES0 := Exa.start ev0 na0
  have SS0 := Sta.start ev0 (Or.inr ⟨(hw _ (List.mem_of_getElem? (i := 2) rfl)), (hw _ (List.mem_of_getElem? (i := 7) rfl))⟩)
  obtain ⟨s1, ev1⟩ := exa_v na1
  have ES1 := Exa.start ev1 na1
  have SS1 := Sta.start ev1 (Or.inr ⟨(hw _ (List.mem_of_getElem? (i := 2) rfl)), (hw _ (List.mem_of_getElem? (i := 10) rfl))⟩)
  obtain ⟨s2, ev2⟩ := exa_v na2
  have ES2 := Exa.start ev2 na2
  have SS2 := Sta.start ev2 (Or.inr ⟨(hw _ (List.mem_of_getElem? (i := 2) rfl)), (hw _ (List.mem_of_getElem? (i := 13) rfl))⟩)
  obtain ⟨s3, ev3⟩ := exa_v na3
  have ES3 := Exa.start ev3 na3
  have SS3 := Sta.start ev3 (Or.inr ⟨(hw _ (List.mem_of_getElem? (i := 2) rfl)), (hw _ (List.mem_of_getElem? (i := 16) rfl))⟩)
  obtain ⟨s4, ev4⟩ := exa_v na4
  have ES4 := Exa.start ev4 na4
  have SS4 := Sta.start ev4 (Or.inr ⟨(hw _ (List.mem_of_getElem? (i := 2) rfl)), (hw _ (List.mem_of_getElem? (i := 19) rfl))⟩)
  obtain ⟨s5, ev5⟩ := exa_v na5
  have ES5 := Exa.start ev5 na5
  have SS5 := Sta.start ev5 (Or.inr ⟨(hw _ (List.mem_of_getElem? (i := 2) rfl)), (hw _ (List.mem_of_getElem? (i := 22) rfl))⟩)
  obtain ⟨n, o, h1, h2, h3, _, L, rfl, ⟨rfl, N⟩, hq⟩ := rm0 l s _ hw tables_1 i0 i1 s.heap s.heap.size (Nat.le_refl _) ES0 SS0 ES1 SS1 ES2 SS2 ES3 SS3 ES4 SS4 ES5 SS5 p e ha hc hk s m _ below hf ((Spec.applies_iff_loose hf).mp happ).1 ⟨rfl, State.Warmed39.refl s, rfl⟩ trivial
  refine ⟨n, _, h1, h2, h3, hpost _ _ _ _ _ _ ⟨Cond.after_iff.mpr rfl, Cond.after_iff.mpr (eq_i res_at (Term.int_eval (1)) rfl), trivial⟩ ⟨hq.1, hq.2.1, (hq.2.2.sift fun y hy => Or.inr (N y hy)).mono (by decide) (by decide)⟩⟩
theorem main_1_1 : Claimed_1_1 := comes_1 fun _ _ _ _ _ _ h hF => ⟨h.1, hF⟩
theorem main_1_2 : Claimed_1_2 := comes_1 fun _ _ _ _ _ _ h hF => ⟨h.2.1, hF⟩
end Jvm.Pilot.@@N@@
namespace Jvm.Pilot.@@N@@
open Jvm Jvm.ClassFile Sem Op Lib Jvm.Free Jvm.Stand Jvm.Pilot.@@N@@.Jvm.D
/-! MADE BY PROGRAM (witnessworld.py) out of the Statement's table words and the real class files: 12 classes; the members and pool entries that the words name. The judged class is class 1, her method 1. -/
namespace start1
open Jvm.ClassFile
def u (s : String) : CpInfo := .utf8 (stringToUtf16 s)
/-- a pool by its gaps: so many unusable entries, then the entry; so many at the end -/
def gap : Nat → List CpInfo → List CpInfo
  | 0, r => r
  | n + 1, r => .unusable :: gap n r
def poolList (es : List (Nat × CpInfo)) (last : Nat) : List CpInfo := es.foldr (fun e r => gap e.1 (e.2 :: r)) (gap last [])
def pool (es : List (Nat × CpInfo)) (last : Nat) : Array CpInfo := ⟨poolList es last⟩
def fileOf (pool : Array CpInfo) (this : Nat) (attrs : Array Attribute := #[]) (ms : Array MethodInfo := #[]) (fl : Nat := 33) (sup : Nat := 0) (ifs : Array Nat := #[]) (fds : Array FieldInfo := #[]) : ClassFile where
  minorVersion := 0
  majorVersion := 65
  constantPool := pool
  accessFlags := fl
  thisClass := this
  superClass := sup
  interfaces := ifs
  fields := fds
  methods := ms
  attributes := attrs
def plain (name : String) (sup : Option ClassId) : Class where
  name := name
  kind := .ordinary
  loader := none
  accessFlags := 33
  super := sup
  interfaces := #[]
  cf := none
  fields := #[]
  methods := #[]
  instanceTypes := #[]
  staticTypes := #[]
  resolved := #[]
  callSites := []
  init := .initialized
  statics := none
  mirror := none

def pool0 : Array CpInfo := pool [(5, u "<init>"), (0, u "()V"), (1, .class_ 10), (1, u "java/lang/Object")] 113

def k0m0 : Method := { name := "<init>", desc := "()V", sig := { parameters := [], returnType := none }, accessFlags := 1, code := none }
/-- java/lang/Object -/
def k0 : Class := { plain "java/lang/Object" none with
  accessFlags := 33
  interfaces := #[]
  cf := some (fileOf pool0 8 #[] #[{ accessFlags := 1, nameIndex := 5, descriptorIndex := 6, attributes := #[] }] 33 0 #[] #[])
  fields := #[]
  methods := #[k0m0]
  instanceTypes := #[]
  staticTypes := #[]
  resolved := Array.replicate 124 none
  statics := none }

def pool1 : Array CpInfo := pool [(2, .class_ 4), (1, u "java/lang/Object"), (0, u "<init>"), (0, u "()V"), (0, .methodref 8 9), (0, .class_ 10), (0, .nameAndType 11 12), (0, u "com/example/ferrule/ferrule/jacdac/bus/WireKind"), (0, u "of"), (0, u "(IZ)Lcom/example/ferrule/ferrule/jacdac/bus/WireKind;"), (0, .fieldref 8 14), (0, .nameAndType 15 16), (0, u "EVENT"), (0, u "Lcom/example/ferrule/ferrule/jacdac/bus/WireKind;"), (0, .fieldref 8 18), (0, .nameAndType 19 16), (0, u "GET"), (0, .fieldref 8 21), (0, .nameAndType 22 16), (0, u "REGISTER"), (0, .fieldref 8 24), (0, .nameAndType 25 16), (0, u "SET"), (0, .fieldref 8 27), (0, .nameAndType 28 16), (0, u "COMMAND"), (0, .fieldref 8 30), (0, .nameAndType 31 16), (0, u "REPORT"), (0, .class_ 33), (0, u "com/example/ferrule/ferrule/jacdac/bus/WireKindOfPinLaw"), (2, u "law"), (0, u "(II)Z")] 3

def k1m0 : Method := { name := "<init>", desc := "()V", sig := { parameters := [], returnType := none }, accessFlags := 2, code := none }
def k1c1 : Code := { maxStack := 2, maxLocals := 6, code := code, exceptionTable := #[], attributes := #[] }
def k1m1 : Method := { name := "law", desc := "(II)Z", sig := { parameters := [.int, .int], returnType := some .boolean }, accessFlags := 9, code := some k1c1 }
/-- com/example/ferrule/ferrule/jacdac/bus/WireKindOfPinLaw -/
def k1 : Class := { plain "com/example/ferrule/ferrule/jacdac/bus/WireKindOfPinLaw" (some 0) with
  accessFlags := 49
  interfaces := #[]
  cf := some (fileOf pool1 32 #[] #[{ accessFlags := 2, nameIndex := 5, descriptorIndex := 6, attributes := #[] }, { accessFlags := 9, nameIndex := 36, descriptorIndex := 37, attributes := #[] }] 49 2 #[] #[])
  fields := #[]
  methods := #[k1m0, k1m1]
  instanceTypes := #[]
  staticTypes := #[]
  resolved := Array.replicate 41 none
  statics := none }

def pool2 : Array CpInfo := pool [(1, .class_ 2), (0, u "java/lang/constant/Constable"), (0, .class_ 4), (0, u "java/lang/Object")] 6

/-- java/lang/constant/Constable -/
def k2 : Class := { plain "java/lang/constant/Constable" (some 0) with
  accessFlags := 1537
  interfaces := #[]
  cf := some (fileOf pool2 1 #[] #[] 1537 3 #[] #[])
  fields := #[]
  methods := #[]
  instanceTypes := #[]
  staticTypes := #[]
  resolved := Array.replicate 11 none
  statics := none }

def pool3 : Array CpInfo := pool [(1, .class_ 2), (0, u "java/lang/Comparable"), (0, .class_ 4), (0, u "java/lang/Object")] 7

/-- java/lang/Comparable -/
def k3 : Class := { plain "java/lang/Comparable" (some 0) with
  accessFlags := 1537
  interfaces := #[]
  cf := some (fileOf pool3 1 #[] #[] 1537 3 #[] #[])
  fields := #[]
  methods := #[]
  instanceTypes := #[]
  staticTypes := #[]
  resolved := Array.replicate 12 none
  statics := none }

def pool4 : Array CpInfo := pool [(1, .class_ 2), (0, u "java/io/Serializable"), (0, .class_ 4), (0, u "java/lang/Object")] 2

/-- java/io/Serializable -/
def k4 : Class := { plain "java/io/Serializable" (some 0) with
  accessFlags := 1537
  interfaces := #[]
  cf := some (fileOf pool4 1 #[] #[] 1537 3 #[] #[])
  fields := #[]
  methods := #[]
  instanceTypes := #[]
  staticTypes := #[]
  resolved := Array.replicate 7 none
  statics := none }

def pool5 : Array CpInfo := pool [(2, .class_ 4), (1, u "java/lang/Enum"), (0, u "name"), (0, u "Ljava/lang/String;"), (2, u "ordinal"), (0, u "I"), (1, .class_ 14), (1, u "java/lang/Object"), (4, u "hash"), (86, .class_ 108), (1, u "java/lang/Enum$EnumDesc"), (2, .class_ 112), (0, u "java/lang/constant/Constable"), (0, .class_ 114), (0, u "java/lang/Comparable"), (0, .class_ 116), (0, u "java/io/Serializable")] 87

/-- java/lang/Enum -/
def k5 : Class := { plain "java/lang/Enum" (some 0) with
  accessFlags := 1057
  interfaces := #[2, 3, 4]
  cf := some (fileOf pool5 2 #[.nestMembers #[106]] #[] 1057 12 #[111, 113, 115] #[{ accessFlags := 18, nameIndex := 5, descriptorIndex := 6, attributes := #[] }, { accessFlags := 18, nameIndex := 9, descriptorIndex := 10, attributes := #[] }, { accessFlags := 2, nameIndex := 19, descriptorIndex := 10, attributes := #[] }])
  fields := #[{ name := "name", type := (.object "java/lang/String"), accessFlags := 18, slot := 0, constantValue := 0 }, { name := "ordinal", type := .int, accessFlags := 18, slot := 1, constantValue := 0 }, { name := "hash", type := .int, accessFlags := 2, slot := 2, constantValue := 0 }]
  methods := #[]
  instanceTypes := #[(.object "java/lang/String"), .int, .int]
  staticTypes := #[]
  resolved := Array.replicate 204 none
  statics := none }

def pool6 : Array CpInfo := pool [(1, .class_ 2), (0, u "com/example/ferrule/ferrule/jacdac/bus/WireKind"), (0, .fieldref 1 4), (0, .nameAndType 5 6), (0, u "GET"), (0, u "Lcom/example/ferrule/ferrule/jacdac/bus/WireKind;"), (0, .fieldref 1 8), (0, .nameAndType 9 6), (0, u "SET"), (0, .fieldref 1 11), (0, .nameAndType 12 6), (0, u "REGISTER"), (0, .fieldref 1 14), (0, .nameAndType 15 6), (0, u "COMMAND"), (0, .fieldref 1 17), (0, .nameAndType 18 6), (0, u "REPORT"), (0, .fieldref 1 20), (0, .nameAndType 21 6), (0, u "EVENT"), (2, u "BAD_CRC"), (2, u "$VALUES"), (0, u "[Lcom/example/ferrule/ferrule/jacdac/bus/WireKind;"), (6, .class_ 37), (1, u "java/lang/Enum"), (8, u "label"), (0, u "Ljava/lang/String;"), (0, .integer 32768), (0, .integer 61440), (116, u "of"), (43, u "MAX_EVENT_COUNTER"), (0, u "I"), (2, u "EVENT_FLAG"), (0, u "EVENT_COUNTER_SHIFT"), (1, u "EVENT_CODE"), (1, u "OPERATION"), (0, u "REGISTER_NUMBER"), (1, u "GET_REGISTER"), (1, u "SET_REGISTER"), (1, u "COMMAND_IDENTIFIER"), (6, u "(IZ)Lcom/example/ferrule/ferrule/jacdac/bus/WireKind;")] 54

def k6c0 : Code := { maxStack := 2, maxLocals := 2, code := prog_45_method_4_code, exceptionTable := #[], attributes := #[] }
def k6m0 : Method := { name := "of", desc := "(IZ)Lcom/example/ferrule/ferrule/jacdac/bus/WireKind;", sig := { parameters := [.int, .boolean], returnType := some (.object "com/example/ferrule/ferrule/jacdac/bus/WireKind") }, accessFlags := 9, code := some k6c0 }
/-- com/example/ferrule/ferrule/jacdac/bus/WireKind -/
def k6 : Class := { plain "com/example/ferrule/ferrule/jacdac/bus/WireKind" (some 5) with
  accessFlags := 16433
  interfaces := #[]
  cf := some (fileOf pool6 1 #[] #[{ accessFlags := 9, nameIndex := 166, descriptorIndex := 233, attributes := #[] }] 16433 35 #[] #[{ accessFlags := 16409, nameIndex := 5, descriptorIndex := 6, attributes := #[] }, { accessFlags := 16409, nameIndex := 9, descriptorIndex := 6, attributes := #[] }, { accessFlags := 16409, nameIndex := 12, descriptorIndex := 6, attributes := #[] }, { accessFlags := 16409, nameIndex := 15, descriptorIndex := 6, attributes := #[] }, { accessFlags := 16409, nameIndex := 18, descriptorIndex := 6, attributes := #[] }, { accessFlags := 16409, nameIndex := 21, descriptorIndex := 6, attributes := #[] }, { accessFlags := 16409, nameIndex := 24, descriptorIndex := 6, attributes := #[] }, { accessFlags := 25, nameIndex := 210, descriptorIndex := 211, attributes := #[] }, { accessFlags := 26, nameIndex := 214, descriptorIndex := 211, attributes := #[] }, { accessFlags := 26, nameIndex := 215, descriptorIndex := 211, attributes := #[] }, { accessFlags := 26, nameIndex := 217, descriptorIndex := 211, attributes := #[] }, { accessFlags := 26, nameIndex := 219, descriptorIndex := 211, attributes := #[] }, { accessFlags := 26, nameIndex := 220, descriptorIndex := 211, attributes := #[] }, { accessFlags := 26, nameIndex := 222, descriptorIndex := 211, attributes := #[] }, { accessFlags := 26, nameIndex := 224, descriptorIndex := 211, attributes := #[] }, { accessFlags := 26, nameIndex := 226, descriptorIndex := 211, attributes := #[] }, { accessFlags := 18, nameIndex := 46, descriptorIndex := 47, attributes := #[] }, { accessFlags := 4122, nameIndex := 27, descriptorIndex := 28, attributes := #[] }])
  fields := #[{ name := "GET", type := (.object "com/example/ferrule/ferrule/jacdac/bus/WireKind"), accessFlags := 16409, slot := 0, constantValue := 0 }, { name := "SET", type := (.object "com/example/ferrule/ferrule/jacdac/bus/WireKind"), accessFlags := 16409, slot := 1, constantValue := 0 }, { name := "REGISTER", type := (.object "com/example/ferrule/ferrule/jacdac/bus/WireKind"), accessFlags := 16409, slot := 2, constantValue := 0 }, { name := "COMMAND", type := (.object "com/example/ferrule/ferrule/jacdac/bus/WireKind"), accessFlags := 16409, slot := 3, constantValue := 0 }, { name := "REPORT", type := (.object "com/example/ferrule/ferrule/jacdac/bus/WireKind"), accessFlags := 16409, slot := 4, constantValue := 0 }, { name := "EVENT", type := (.object "com/example/ferrule/ferrule/jacdac/bus/WireKind"), accessFlags := 16409, slot := 5, constantValue := 0 }, { name := "BAD_CRC", type := (.object "com/example/ferrule/ferrule/jacdac/bus/WireKind"), accessFlags := 16409, slot := 6, constantValue := 0 }, { name := "MAX_EVENT_COUNTER", type := .int, accessFlags := 25, slot := 7, constantValue := 0 }, { name := "EVENT_FLAG", type := .int, accessFlags := 26, slot := 8, constantValue := 0 }, { name := "EVENT_COUNTER_SHIFT", type := .int, accessFlags := 26, slot := 9, constantValue := 0 }, { name := "EVENT_CODE", type := .int, accessFlags := 26, slot := 10, constantValue := 0 }, { name := "OPERATION", type := .int, accessFlags := 26, slot := 11, constantValue := 0 }, { name := "REGISTER_NUMBER", type := .int, accessFlags := 26, slot := 12, constantValue := 0 }, { name := "GET_REGISTER", type := .int, accessFlags := 26, slot := 13, constantValue := 0 }, { name := "SET_REGISTER", type := .int, accessFlags := 26, slot := 14, constantValue := 0 }, { name := "COMMAND_IDENTIFIER", type := .int, accessFlags := 26, slot := 15, constantValue := 0 }, { name := "label", type := (.object "java/lang/String"), accessFlags := 18, slot := 3, constantValue := 0 }, { name := "$VALUES", type := (.array (.object "com/example/ferrule/ferrule/jacdac/bus/WireKind")), accessFlags := 4122, slot := 16, constantValue := 0 }]
  methods := #[k6m0]
  instanceTypes := #[(.object "java/lang/String"), .int, .int, (.object "java/lang/String")]
  staticTypes := #[(.object "com/example/ferrule/ferrule/jacdac/bus/WireKind"), (.object "com/example/ferrule/ferrule/jacdac/bus/WireKind"), (.object "com/example/ferrule/ferrule/jacdac/bus/WireKind"), (.object "com/example/ferrule/ferrule/jacdac/bus/WireKind"), (.object "com/example/ferrule/ferrule/jacdac/bus/WireKind"), (.object "com/example/ferrule/ferrule/jacdac/bus/WireKind"), (.object "com/example/ferrule/ferrule/jacdac/bus/WireKind"), .int, .int, .int, .int, .int, .int, .int, .int, .int, (.array (.object "com/example/ferrule/ferrule/jacdac/bus/WireKind"))]
  resolved := Array.replicate 288 none
  statics := some 0 }

def pool7 : Array CpInfo := pool [(1, u "java/lang/Cloneable"), (0, .class_ 1), (0, u "java/lang/Object"), (0, .class_ 3)] 3

/-- java/lang/Cloneable -/
def k7 : Class := { plain "java/lang/Cloneable" (some 0) with
  accessFlags := 1537
  interfaces := #[]
  cf := some (fileOf pool7 2 #[] #[] 1537 4 #[] #[])
  fields := #[]
  methods := #[]
  instanceTypes := #[]
  staticTypes := #[]
  resolved := Array.replicate 8 none
  statics := none }

/-- the primitive byte -/
def k8 : Class := { plain "byte" none with kind := .primitive 'B', accessFlags := 0x411 }
/-- [B -/
def k9 : Class := { plain "[B" (some 0) with kind := .array 8 .byte, interfaces := #[7, 4], accessFlags := 1041 }

/-- the primitive int -/
def k10 : Class := { plain "int" none with kind := .primitive 'I', accessFlags := 0x411 }
/-- [I -/
def k11 : Class := { plain "[I" (some 0) with kind := .array 10 .int, interfaces := #[7, 4], accessFlags := 1041 }

def heap : Heap := #[{ cls := 6, slots := #[.ref 1, .ref 1, .ref 1, .ref 1, .ref 1, .ref 1, .null, .int 0, .int 0, .int 0, .int 0, .int 0, .int 0, .int 0, .int 0, .int 0, .null], vm := .statics 6 },
  { cls := 6, slots := #[.null, .int 0, .int 0, .null], vm := .none }]
def classes : Array Class := #[k0, k1, k2, k3, k4, k5, k6, k7, k8, k9, k10, k11]
def interned : List (Array UInt16 × Addr) := []
def slotsUsed : Nat := 21
def theMethod : MethodId := ⟨1, 1⟩
def args0 : Array Value := #[.int 5, .int 5]
def aboutOver (below : List Frame) : State where
  vm := { classes := classes, interned := interned.toArray }
  heap := heap
  slotsUsed := slotsUsed
  threads := #[{ frames := .invoking theMethod args0 :: below }]
def below0 : List Frame := [.native { method := ⟨0, 0⟩, args := #[] }]
def about1 : State := aboutOver below0
def p0 : Program := .bare "" "" ""
def e0 : Env := launch0.env 0 0 0
theorem w_frames : about1.frames = Frame.invoking theMethod args0 :: below0 := rfl
set_option maxRecDepth 65536 in
theorem w_args : argsFit about1.vm theMethod args0 = true := by decide +kernel
set_option maxRecDepth 65536 in
theorem w_heap : heapFits about1 = true := by decide +kernel
set_option maxRecDepth 65536 in
theorem w_runnable : about1.curStatus? = some .runnable := by decide +kernel
set_option maxRecDepth 65536 in
theorem w_alone : about1.alone = true := by decide +kernel
set_option maxRecDepth 65536 in
theorem w_named : about1.methodNamed? x = some theMethod := by decide +kernel
set_option maxRecDepth 65536 in
theorem w_hears : about1.hears theMethod below0 = true := by decide +kernel
set_option maxRecDepth 65536 in
theorem w_ripe : about1.ripe theMethod args0 below0 = true := by decide +kernel
theorem w_running : about1.status = .running := rfl
set_option maxRecDepth 65536 in
theorem w_room : about1.hasRoom e0.platform room_1 = true :=
  launch0.hasRoom_least _ room_1 (by decide +kernel) (by decide +kernel) (by decide +kernel) (by decide +kernel) (by decide +kernel) (by decide +kernel)
theorem allAtoms_all (ts : List Jvm.Cond) (a : Array Jvm.Value) (st : Jvm.State) : (allAtoms ts).before a st = ts.all (fun c => c.before a st) := by
  induction ts with
  | nil => rfl
  | cons c t ih =>
    show (Jvm.Cond.and c (allAtoms t)).before a st = _
    rw [Jvm.Cond.before_and, ih, List.all_cons]
def words1 : List Jvm.Cond := Jvm.Cond.code x code maxLocals ret :: tables_1
/-- a 'code' word, met by the world's own term for the bytes: nothing is compared byte by byte -/
theorem code_word {y : MethodName} {bytes : ByteArray} {mx : Nat} {rt : Option FieldType} {a : Array Value} {s : State} {m : MethodId} {meth : Method} {c : Code} (h1 : s.methodNamed? y = some m) (h2 : s.vm.method? m = some meth) (h3 : meth.code = some c) (h4 : c.code = bytes)
    (h5 : (c.maxLocals == mx && c.exceptionTable.isEmpty && decide (c.maxStack ≤ mostOperands) && decide (meth.sig.returnType = rt) && !meth.locks && decide (parseMethodDescriptor y.desc = some meth.sig)) = true) : (Jvm.Cond.code y bytes mx rt).before a s = true := by
  simp only [Bool.and_eq_true, beq_iff_eq, Bool.not_eq_true', decide_eq_true_eq] at h5
  obtain ⟨⟨⟨⟨⟨g1, g2⟩, g3⟩, g4⟩, g5⟩, g6⟩ := h5
  simp [Cond.before, Cond.holds, Cond.value, h1, h2, h3, h4, g1, g2, g3, g4, g5, g6]
def isCode : Jvm.Cond → Bool
  | .code _ _ _ _ => true
  | _ => false
theorem all_split {L : List Jvm.Cond} {P : Jvm.Cond → Bool} (h1 : L.all (fun c => isCode c || P c) = true) (h2 : ∀ c ∈ L.filter isCode, P c = true) : L.all P = true := by
  refine List.all_eq_true.mpr fun c hc => ?_
  have h := List.all_eq_true.mp h1 c hc
  rcases Bool.eq_false_or_eq_true (isCode c) with hi | hi
  · exact h2 c (List.mem_filter.mpr ⟨hc, hi⟩)
  · simpa [hi] using h
set_option maxRecDepth 65536 in
theorem w_c0 : (Jvm.Cond.code x code maxLocals ret).before args0 about1 = true := code_word (m := ⟨1, 1⟩) (meth := k1m1) (c := k1c1) (by decide +kernel) rfl rfl rfl (by decide +kernel)
set_option maxRecDepth 65536 in
theorem w_c1 : (Jvm.Cond.code ({ cls := "com/example/ferrule/ferrule/jacdac/bus/WireKind", name := "of", desc := "(IZ)Lcom/example/ferrule/ferrule/jacdac/bus/WireKind;" } : Jvm.MethodName) prog_45_method_4_code (2 : Nat) (Option.some (Jvm.ClassFile.FieldType.object "com/example/ferrule/ferrule/jacdac/bus/WireKind"))).before args0 about1 = true := code_word (m := ⟨6, 0⟩) (meth := k6m0) (c := k6c0) (by decide +kernel) rfl rfl rfl (by decide +kernel)
def codes1 : List Jvm.Cond := [Jvm.Cond.code x code maxLocals ret, Jvm.Cond.code ({ cls := "com/example/ferrule/ferrule/jacdac/bus/WireKind", name := "of", desc := "(IZ)Lcom/example/ferrule/ferrule/jacdac/bus/WireKind;" } : Jvm.MethodName) prog_45_method_4_code (2 : Nat) (Option.some (Jvm.ClassFile.FieldType.object "com/example/ferrule/ferrule/jacdac/bus/WireKind"))]
set_option maxRecDepth 65536 in
theorem codes_eq : words1.filter isCode = codes1 := rfl
theorem w_codes : ∀ c ∈ words1.filter isCode, c.before args0 about1 = true := by
  rw [codes_eq]
  intro c hc
  simp only [codes1, List.mem_cons, List.not_mem_nil, or_false] at hc
  rcases hc with rfl | rfl
  · exact w_c0
  · exact w_c1
set_option maxRecDepth 65536 in
theorem w_t1 : (words1.take 24).all (fun c => isCode c || c.before args0 about1) = true := by decide +kernel
set_option maxRecDepth 65536 in
theorem w_t2 : (words1.drop 24).all (fun c => isCode c || c.before args0 about1) = true := by decide +kernel
theorem w_tables : (allAtoms (Jvm.Cond.code x code maxLocals ret :: tables_1)).before args0 about1 = true := by
  rw [allAtoms_all]
  show words1.all (fun c => c.before args0 about1) = true
  refine all_split ?_ w_codes
  rw [← List.take_append_drop 24 words1, List.all_append, w_t1, w_t2]
  rfl
set_option maxRecDepth 65536 in
theorem w_case : (Jvm.Cond.and given_1 narrow_1).before args0 about1 = true := by decide +kernel
theorem w_applies : (headSpec (Jvm.Cond.code x code maxLocals ret :: tables_1) room_1).applies x e0.platform about1 = true :=
  (Spec.applies_iff w_frames).mpr ⟨w_running, w_runnable, w_alone, w_named, w_hears, w_ripe, w_room, w_tables⟩
theorem atStart : AtStart classFile x code maxLocals ret World_1 tables_1 room_1 Calls_1 rest_1 Pre_1 launch0 p0 e0 about1 theMethod args0 below0 :=
  ⟨lists_1, trivial, launch0.admits_env _ _ _, launch0.least_env, fairChoices_fair.cas, fairChoices_fair.clock, w_frames, w_args, w_heap, w_applies, trivial, trivial, w_case⟩
end start1
theorem witness_1 : WitnessClaimed_1 := ⟨start1.p0, start1.e0, start1.about1, start1.theMethod, start1.args0, start1.below0, start1.atStart⟩
end Jvm.Pilot.@@N@@
