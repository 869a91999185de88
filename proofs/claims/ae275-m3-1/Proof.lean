import JvmDerived
import JvmDerived.Pilot.@@N@@Statement
import JvmDerived.Pilot.@@N@@Code
set_option linter.unusedVariables false
set_option linter.unusedSimpArgs false
namespace Jvm.Pilot.@@N@@
open Jvm Jvm.ClassFile Sem Op Lib Jvm.Free Jvm.Stand Jvm.LawKit Jvm.RoadKit Bundle Jvm.Pilot.@@N@@.Jvm.D
section OwnKit
variable {p : Program} {l : Launch} {e : Env} {R : Room} {s : State} {m : MethodId} {args : Array Value} {below : List Frame} {meth : Method} {c : Code} {T : State} {locs : List Loc} {cells slots kc ks : Nat} {Q : Option Value → Heap → List Loc → Prop} {pc q : Nat} {Ls L' : Array Slot} {st : List Value}
def own_Go (p : Program) (e : Env) (below : List Frame) (s : State) (kc ks : Nat) (Q : Option Value → Heap → List Loc → Prop) (U : State) : Prop :=
  ∃ s₂ o, Steps p.tables e below U s₂ ∧ s₂.status = .running ∧ Ended s₂ below o ∧ ∃ v L, o = .returned v ∧ Q v s₂.heap L ∧ FrameEnd s o s₂ L kc ks
theorem own_via {U V : State} (h : ∀ t, Steps p.tables e below V t → Steps p.tables e below U t) (K : own_Go p e below s kc ks Q V) : own_Go p e below s kc ks Q U := by
  obtain ⟨a, b, h1, r⟩ := K; exact ⟨a, b, h _ h1, r⟩
def own_P (w : Value) (h : Heap) (v : Option Value) (h' : Heap) (L : List Loc) : Prop := v = some w ∧ h' = h ∧ L = []
theorem own_iadd (X : Stand p l e R s m args below meth c T locs cells slots) (hx : p.tables.exec = Jvm.exec) {x y : Int32} (hd : decode c.code pc = .ok (.iadd, 1)) (hq : pc + 1 = q)  (K : own_Go p e below s kc ks Q (T.setTop (mkF m q Ls (.int (x + y) :: st)))) : own_Go p e below s kc ks Q (T.setTop (mkF m pc Ls (.int y :: .int x :: st))) := by
  subst hq; exact own_via (fun t => XS.iadd X.here hx rfl hd rfl) K
theorem own_isub (X : Stand p l e R s m args below meth c T locs cells slots) (hx : p.tables.exec = Jvm.exec) {x y : Int32} (hd : decode c.code pc = .ok (.isub, 1)) (hq : pc + 1 = q)  (K : own_Go p e below s kc ks Q (T.setTop (mkF m q Ls (.int (x - y) :: st)))) : own_Go p e below s kc ks Q (T.setTop (mkF m pc Ls (.int y :: .int x :: st))) := by
  subst hq; exact own_via (fun t => XS.isub X.here hx rfl hd rfl) K
theorem own_imul (X : Stand p l e R s m args below meth c T locs cells slots) (hx : p.tables.exec = Jvm.exec) {x y : Int32} (hd : decode c.code pc = .ok (.imul, 1)) (hq : pc + 1 = q)  (K : own_Go p e below s kc ks Q (T.setTop (mkF m q Ls (.int (x * y) :: st)))) : own_Go p e below s kc ks Q (T.setTop (mkF m pc Ls (.int y :: .int x :: st))) := by
  subst hq; exact own_via (fun t => XS.imul X.here hx rfl hd rfl) K
theorem own_iand (X : Stand p l e R s m args below meth c T locs cells slots) (hx : p.tables.exec = Jvm.exec) {x y : Int32} (hd : decode c.code pc = .ok (.iand, 1)) (hq : pc + 1 = q)  (K : own_Go p e below s kc ks Q (T.setTop (mkF m q Ls (.int (x &&& y) :: st)))) : own_Go p e below s kc ks Q (T.setTop (mkF m pc Ls (.int y :: .int x :: st))) := by
  subst hq; exact own_via (fun t => XS.iand X.here hx rfl hd rfl) K
theorem own_ixor (X : Stand p l e R s m args below meth c T locs cells slots) (hx : p.tables.exec = Jvm.exec) {x y : Int32} (hd : decode c.code pc = .ok (.ixor, 1)) (hq : pc + 1 = q)  (K : own_Go p e below s kc ks Q (T.setTop (mkF m q Ls (.int (x ^^^ y) :: st)))) : own_Go p e below s kc ks Q (T.setTop (mkF m pc Ls (.int y :: .int x :: st))) := by
  subst hq; exact own_via (fun t => XT.ixor X.here hx rfl hd rfl) K
theorem own_ior (X : Stand p l e R s m args below meth c T locs cells slots) (hx : p.tables.exec = Jvm.exec) {x y : Int32} (hd : decode c.code pc = .ok (.ior, 1)) (hq : pc + 1 = q)  (K : own_Go p e below s kc ks Q (T.setTop (mkF m q Ls (.int (x ||| y) :: st)))) : own_Go p e below s kc ks Q (T.setTop (mkF m pc Ls (.int y :: .int x :: st))) := by
  subst hq; exact own_via (fun t => XT.ior X.here hx rfl hd rfl) K
theorem own_ishl (X : Stand p l e R s m args below meth c T locs cells slots) (hx : p.tables.exec = Jvm.exec) {x y : Int32} (hd : decode c.code pc = .ok (.ishl, 1)) (hq : pc + 1 = q)  (K : own_Go p e below s kc ks Q (T.setTop (mkF m q Ls (.int (x <<< (y &&& 31)) :: st)))) : own_Go p e below s kc ks Q (T.setTop (mkF m pc Ls (.int y :: .int x :: st))) := by
  subst hq; exact own_via (fun t => XT.ishl X.here hx rfl hd rfl) K
theorem own_ishr (X : Stand p l e R s m args below meth c T locs cells slots) (hx : p.tables.exec = Jvm.exec) {x y : Int32} (hd : decode c.code pc = .ok (.ishr, 1)) (hq : pc + 1 = q)  (K : own_Go p e below s kc ks Q (T.setTop (mkF m q Ls (.int (x >>> (y &&& 31)) :: st)))) : own_Go p e below s kc ks Q (T.setTop (mkF m pc Ls (.int y :: .int x :: st))) := by
  subst hq; exact own_via (fun t => XT.ishr X.here hx rfl hd rfl) K
theorem own_iushr (X : Stand p l e R s m args below meth c T locs cells slots) (hx : p.tables.exec = Jvm.exec) {x y : Int32} (hd : decode c.code pc = .ok (.iushr, 1)) (hq : pc + 1 = q)  (K : own_Go p e below s kc ks Q (T.setTop (mkF m q Ls (.int (XT.ushr x y) :: st)))) : own_Go p e below s kc ks Q (T.setTop (mkF m pc Ls (.int y :: .int x :: st))) := by
  subst hq; exact own_via (fun t => XT.iushr X.here hx rfl hd rfl) K
theorem own_idiv (X : Stand p l e R s m args below meth c T locs cells slots) (hx : p.tables.exec = Jvm.exec) {x y : Int32} (hd : decode c.code pc = .ok (.idiv, 1)) (hq : pc + 1 = q) (hy : y ≠ 0) (K : own_Go p e below s kc ks Q (T.setTop (mkF m q Ls (.int (x / y) :: st)))) : own_Go p e below s kc ks Q (T.setTop (mkF m pc Ls (.int y :: .int x :: st))) := by
  subst hq; exact own_via (fun t => XS.idiv X.here hx rfl hd rfl hy) K
theorem own_irem (X : Stand p l e R s m args below meth c T locs cells slots) (hx : p.tables.exec = Jvm.exec) {x y : Int32} (hd : decode c.code pc = .ok (.irem, 1)) (hq : pc + 1 = q) (hy : y ≠ 0) (K : own_Go p e below s kc ks Q (T.setTop (mkF m q Ls (.int (x % y) :: st)))) : own_Go p e below s kc ks Q (T.setTop (mkF m pc Ls (.int y :: .int x :: st))) := by
  subst hq; exact own_via (fun t => iremM X hx rfl hd rfl hy) K
theorem own_ineg (X : Stand p l e R s m args below meth c T locs cells slots) (hx : p.tables.exec = Jvm.exec) {x : Int32} (hd : decode c.code pc = .ok (.ineg, 1)) (hq : pc + 1 = q)  (K : own_Go p e below s kc ks Q (T.setTop (mkF m q Ls (.int (-x) :: st)))) : own_Go p e below s kc ks Q (T.setTop (mkF m pc Ls (.int x :: st))) := by
  subst hq; exact own_via (fun t => XS.ineg X.here hx rfl hd rfl) K
theorem own_ladd (X : Stand p l e R s m args below meth c T locs cells slots) (hx : p.tables.exec = Jvm.exec) {x y : Int64} (hd : decode c.code pc = .ok (.ladd, 1)) (hq : pc + 1 = q)  (K : own_Go p e below s kc ks Q (T.setTop (mkF m q Ls (.long (x + y) :: st)))) : own_Go p e below s kc ks Q (T.setTop (mkF m pc Ls (.long y :: .long x :: st))) := by
  subst hq; exact own_via (fun t => XT.ladd X.here hx rfl hd rfl) K
theorem own_lsub (X : Stand p l e R s m args below meth c T locs cells slots) (hx : p.tables.exec = Jvm.exec) {x y : Int64} (hd : decode c.code pc = .ok (.lsub, 1)) (hq : pc + 1 = q)  (K : own_Go p e below s kc ks Q (T.setTop (mkF m q Ls (.long (x - y) :: st)))) : own_Go p e below s kc ks Q (T.setTop (mkF m pc Ls (.long y :: .long x :: st))) := by
  subst hq; exact own_via (fun t => XT.lsub X.here hx rfl hd rfl) K
theorem own_lmul (X : Stand p l e R s m args below meth c T locs cells slots) (hx : p.tables.exec = Jvm.exec) {x y : Int64} (hd : decode c.code pc = .ok (.lmul, 1)) (hq : pc + 1 = q)  (K : own_Go p e below s kc ks Q (T.setTop (mkF m q Ls (.long (x * y) :: st)))) : own_Go p e below s kc ks Q (T.setTop (mkF m pc Ls (.long y :: .long x :: st))) := by
  subst hq; exact own_via (fun t => XT.lmul X.here hx rfl hd rfl) K
theorem own_land (X : Stand p l e R s m args below meth c T locs cells slots) (hx : p.tables.exec = Jvm.exec) {x y : Int64} (hd : decode c.code pc = .ok (.land, 1)) (hq : pc + 1 = q)  (K : own_Go p e below s kc ks Q (T.setTop (mkF m q Ls (.long (x &&& y) :: st)))) : own_Go p e below s kc ks Q (T.setTop (mkF m pc Ls (.long y :: .long x :: st))) := by
  subst hq; exact own_via (fun t => XT.land X.here hx rfl hd rfl) K
theorem own_lor (X : Stand p l e R s m args below meth c T locs cells slots) (hx : p.tables.exec = Jvm.exec) {x y : Int64} (hd : decode c.code pc = .ok (.lor, 1)) (hq : pc + 1 = q)  (K : own_Go p e below s kc ks Q (T.setTop (mkF m q Ls (.long (x ||| y) :: st)))) : own_Go p e below s kc ks Q (T.setTop (mkF m pc Ls (.long y :: .long x :: st))) := by
  subst hq; exact own_via (fun t => XT.lor X.here hx rfl hd rfl) K
theorem own_lxor (X : Stand p l e R s m args below meth c T locs cells slots) (hx : p.tables.exec = Jvm.exec) {x y : Int64} (hd : decode c.code pc = .ok (.lxor, 1)) (hq : pc + 1 = q)  (K : own_Go p e below s kc ks Q (T.setTop (mkF m q Ls (.long (x ^^^ y) :: st)))) : own_Go p e below s kc ks Q (T.setTop (mkF m pc Ls (.long y :: .long x :: st))) := by
  subst hq; exact own_via (fun t => XT.lxor X.here hx rfl hd rfl) K
theorem own_ldiv (X : Stand p l e R s m args below meth c T locs cells slots) (hx : p.tables.exec = Jvm.exec) {x y : Int64} (hd : decode c.code pc = .ok (.ldiv, 1)) (hq : pc + 1 = q) (hy : y ≠ 0) (K : own_Go p e below s kc ks Q (T.setTop (mkF m q Ls (.long (x / y) :: st)))) : own_Go p e below s kc ks Q (T.setTop (mkF m pc Ls (.long y :: .long x :: st))) := by
  subst hq; exact own_via (fun t => XT.ldiv X.here hx rfl hd rfl hy) K
theorem own_lshl (X : Stand p l e R s m args below meth c T locs cells slots) (hx : p.tables.exec = Jvm.exec) {x : Int64} {y : Int32} (hd : decode c.code pc = .ok (.lshl, 1)) (hq : pc + 1 = q)  (K : own_Go p e below s kc ks Q (T.setTop (mkF m q Ls (.long (x <<< (y.toInt64 &&& 63)) :: st)))) : own_Go p e below s kc ks Q (T.setTop (mkF m pc Ls (.int y :: .long x :: st))) := by
  subst hq; exact own_via (fun t => XT.lshl X.here hx rfl hd rfl) K
theorem own_lshr (X : Stand p l e R s m args below meth c T locs cells slots) (hx : p.tables.exec = Jvm.exec) {x : Int64} {y : Int32} (hd : decode c.code pc = .ok (.lshr, 1)) (hq : pc + 1 = q)  (K : own_Go p e below s kc ks Q (T.setTop (mkF m q Ls (.long (x >>> (y.toInt64 &&& 63)) :: st)))) : own_Go p e below s kc ks Q (T.setTop (mkF m pc Ls (.int y :: .long x :: st))) := by
  subst hq; exact own_via (fun t => XT.lshr X.here hx rfl hd rfl) K
theorem own_lushr (X : Stand p l e R s m args below meth c T locs cells slots) (hx : p.tables.exec = Jvm.exec) {x : Int64} {y : Int32} (hd : decode c.code pc = .ok (.lushr, 1)) (hq : pc + 1 = q)  (K : own_Go p e below s kc ks Q (T.setTop (mkF m q Ls (.long (XT.ushrL x y) :: st)))) : own_Go p e below s kc ks Q (T.setTop (mkF m pc Ls (.int y :: .long x :: st))) := by
  subst hq; exact own_via (fun t => XT.lushr X.here hx rfl hd rfl) K
theorem own_i2l (X : Stand p l e R s m args below meth c T locs cells slots) (hx : p.tables.exec = Jvm.exec) {x : Int32} (hd : decode c.code pc = .ok (.i2l, 1)) (hq : pc + 1 = q)  (K : own_Go p e below s kc ks Q (T.setTop (mkF m q Ls (.long x.toInt64 :: st)))) : own_Go p e below s kc ks Q (T.setTop (mkF m pc Ls (.int x :: st))) := by
  subst hq; exact own_via (fun t => XT.i2l X.here hx rfl hd rfl) K
theorem own_l2i (X : Stand p l e R s m args below meth c T locs cells slots) (hx : p.tables.exec = Jvm.exec) {x : Int64} (hd : decode c.code pc = .ok (.l2i, 1)) (hq : pc + 1 = q)  (K : own_Go p e below s kc ks Q (T.setTop (mkF m q Ls (.int x.toInt32 :: st)))) : own_Go p e below s kc ks Q (T.setTop (mkF m pc Ls (.long x :: st))) := by
  subst hq; exact own_via (fun t => XT.l2i X.here hx rfl hd rfl) K
theorem own_i2c (X : Stand p l e R s m args below meth c T locs cells slots) (hx : p.tables.exec = Jvm.exec) {x : Int32} (hd : decode c.code pc = .ok (.i2c, 1)) (hq : pc + 1 = q)  (K : own_Go p e below s kc ks Q (T.setTop (mkF m q Ls (.int x.toUInt32.toUInt16.toUInt32.toInt32 :: st)))) : own_Go p e below s kc ks Q (T.setTop (mkF m pc Ls (.int x :: st))) := by
  subst hq; exact own_via (fun t => XT.i2c X.here hx rfl hd rfl) K
theorem own_i2b (X : Stand p l e R s m args below meth c T locs cells slots) (hx : p.tables.exec = Jvm.exec) {x : Int32} (hd : decode c.code pc = .ok (.i2b, 1)) (hq : pc + 1 = q)  (K : own_Go p e below s kc ks Q (T.setTop (mkF m q Ls (.int x.toInt8.toInt32 :: st)))) : own_Go p e below s kc ks Q (T.setTop (mkF m pc Ls (.int x :: st))) := by
  subst hq; exact own_via (fun t => XT.i2b X.here hx rfl hd rfl) K
theorem own_lcmp (X : Stand p l e R s m args below meth c T locs cells slots) (hx : p.tables.exec = Jvm.exec) {x y : Int64} (hd : decode c.code pc = .ok (.lcmp, 1)) (hq : pc + 1 = q)  (K : own_Go p e below s kc ks Q (T.setTop (mkF m q Ls (.int (XT.cmpL x y) :: st)))) : own_Go p e below s kc ks Q (T.setTop (mkF m pc Ls (.long y :: .long x :: st))) := by
  subst hq; exact own_via (fun t => XT.lcmp X.here hx rfl hd rfl) K
theorem own_iconst (X : Stand p l e R s m args below meth c T locs cells slots) (hx : p.tables.exec = Jvm.exec) {i : Int} (v : Int32) (hd : decode c.code pc = .ok (.iconst i, 1)) (hq : pc + 1 = q) (hv : Int32.ofInt i = v) (K : own_Go p e below s kc ks Q (T.setTop (mkF m q Ls (.int v :: st)))) : own_Go p e below s kc ks Q (T.setTop (mkF m pc Ls st)) := by
  subst hq; exact own_via (fun t => XT.iconstV (v := v) X.here hx rfl hd hv) K
theorem own_bipush (X : Stand p l e R s m args below meth c T locs cells slots) (hx : p.tables.exec = Jvm.exec) {i : Int} (v : Int32) (hd : decode c.code pc = .ok (.bipush i, 2)) (hq : pc + 2 = q) (hv : (Int8.ofInt i).toInt32 = v) (K : own_Go p e below s kc ks Q (T.setTop (mkF m q Ls (.int v :: st)))) : own_Go p e below s kc ks Q (T.setTop (mkF m pc Ls st)) := by
  subst hq; exact own_via (fun t => XT.bipushV (v := v) X.here hx rfl hd hv) K
theorem own_sipush (X : Stand p l e R s m args below meth c T locs cells slots) (hx : p.tables.exec = Jvm.exec) {i : Int} (v : Int32) (hd : decode c.code pc = .ok (.sipush i, 3)) (hq : pc + 3 = q) (hv : (Int16.ofInt i).toInt32 = v) (K : own_Go p e below s kc ks Q (T.setTop (mkF m q Ls (.int v :: st)))) : own_Go p e below s kc ks Q (T.setTop (mkF m pc Ls st)) := by
  subst hq; exact own_via (fun t => XT.sipushV (v := v) X.here hx rfl hd hv) K
theorem own_lconst (X : Stand p l e R s m args below meth c T locs cells slots) (hx : p.tables.exec = Jvm.exec) {i : Fin 2} (v : Int64) (hd : decode c.code pc = .ok (.lconst i, 1)) (hq : pc + 1 = q) (hv : Int64.ofNat i = v) (K : own_Go p e below s kc ks Q (T.setTop (mkF m q Ls (.long v :: st)))) : own_Go p e below s kc ks Q (T.setTop (mkF m pc Ls st)) := by
  subst hq; exact own_via (fun t => XT.lconstV (v := v) X.here hx rfl hd hv) K
theorem own_aconstNull (X : Stand p l e R s m args below meth c T locs cells slots) (hx : p.tables.exec = Jvm.exec)  (hd : decode c.code pc = .ok (.aconst_null, 1)) (hq : pc + 1 = q)  (K : own_Go p e below s kc ks Q (T.setTop (mkF m q Ls (.null :: st)))) : own_Go p e below s kc ks Q (T.setTop (mkF m pc Ls st)) := by
  subst hq; exact own_via (fun t => XS.aconstNull X.here hx rfl hd ) K
theorem own_iloadN (X : Stand p l e R s m args below meth c T locs cells slots) (hx : p.tables.exec = Jvm.exec) {k : Fin 4} {v : Int32} (hd : decode c.code pc = .ok (.iload_n k, 1)) (hq : pc + 1 = q) (hl : Ls[k.val]? = some (.val (.int v))) (K : own_Go p e below s kc ks Q (T.setTop (mkF m q Ls (.int v :: st)))) : own_Go p e below s kc ks Q (T.setTop (mkF m pc Ls st)) := by
  subst hq; exact own_via (fun t => XS.iloadN X.here hx rfl hd hl) K
theorem own_iload (X : Stand p l e R s m args below meth c T locs cells slots) (hx : p.tables.exec = Jvm.exec) {k : Nat} {v : Int32} (hd : decode c.code pc = .ok (.iload k, 2)) (hq : pc + 2 = q) (hl : Ls[k]? = some (.val (.int v))) (K : own_Go p e below s kc ks Q (T.setTop (mkF m q Ls (.int v :: st)))) : own_Go p e below s kc ks Q (T.setTop (mkF m pc Ls st)) := by
  subst hq; exact own_via (fun t => XS.iload X.here hx rfl hd hl) K
theorem own_lloadN (X : Stand p l e R s m args below meth c T locs cells slots) (hx : p.tables.exec = Jvm.exec) {k : Fin 4} {v : Int64} (hd : decode c.code pc = .ok (.lload_n k, 1)) (hq : pc + 1 = q) (hl : Ls[k.val]? = some (.val (.long v))) (K : own_Go p e below s kc ks Q (T.setTop (mkF m q Ls (.long v :: st)))) : own_Go p e below s kc ks Q (T.setTop (mkF m pc Ls st)) := by
  subst hq; exact own_via (fun t => XT.lloadN X.here hx rfl hd hl) K
theorem own_lload (X : Stand p l e R s m args below meth c T locs cells slots) (hx : p.tables.exec = Jvm.exec) {k : Nat} {v : Int64} (hd : decode c.code pc = .ok (.lload k, 2)) (hq : pc + 2 = q) (hl : Ls[k]? = some (.val (.long v))) (K : own_Go p e below s kc ks Q (T.setTop (mkF m q Ls (.long v :: st)))) : own_Go p e below s kc ks Q (T.setTop (mkF m pc Ls st)) := by
  subst hq; exact own_via (fun t => XT.lload X.here hx rfl hd hl) K
theorem own_aloadN (X : Stand p l e R s m args below meth c T locs cells slots) (hx : p.tables.exec = Jvm.exec) {k : Fin 4} {v : Value} (hd : decode c.code pc = .ok (.aload_n k, 1)) (hq : pc + 1 = q) (hl : Ls[k.val]? = some (.val v)) (hv : v.isRef = true) (K : own_Go p e below s kc ks Q (T.setTop (mkF m q Ls (v :: st)))) : own_Go p e below s kc ks Q (T.setTop (mkF m pc Ls st)) := by
  subst hq; exact own_via (fun t => XS.aloadN X.here hx rfl hd hl hv) K
theorem own_aload (X : Stand p l e R s m args below meth c T locs cells slots) (hx : p.tables.exec = Jvm.exec) {k : Nat} {v : Value} (hd : decode c.code pc = .ok (.aload k, 2)) (hq : pc + 2 = q) (hl : Ls[k]? = some (.val v)) (hv : v.isRef = true) (K : own_Go p e below s kc ks Q (T.setTop (mkF m q Ls (v :: st)))) : own_Go p e below s kc ks Q (T.setTop (mkF m pc Ls st)) := by
  subst hq; exact own_via (fun t => XS.aload X.here hx rfl hd hl hv) K
theorem own_istoreN (X : Stand p l e R s m args below meth c T locs cells slots) (hx : p.tables.exec = Jvm.exec) {k : Fin 4} {v : Int32} (hd : decode c.code pc = .ok (.istore_n k, 1)) (hq : pc + 1 = q) (hl : storeLocals Ls k.val (.int v) = some L') (K : own_Go p e below s kc ks Q (T.setTop (mkF m q L' st))) : own_Go p e below s kc ks Q (T.setTop (mkF m pc Ls (.int v :: st))) := by
  subst hq; exact own_via (fun t => XS.istoreN X.here hx rfl hd rfl hl) K
theorem own_istore (X : Stand p l e R s m args below meth c T locs cells slots) (hx : p.tables.exec = Jvm.exec) {k : Nat} {v : Int32} (hd : decode c.code pc = .ok (.istore k, 2)) (hq : pc + 2 = q) (hl : storeLocals Ls k (.int v) = some L') (K : own_Go p e below s kc ks Q (T.setTop (mkF m q L' st))) : own_Go p e below s kc ks Q (T.setTop (mkF m pc Ls (.int v :: st))) := by
  subst hq; exact own_via (fun t => XS.istore X.here hx rfl hd rfl hl) K
theorem own_lstoreN (X : Stand p l e R s m args below meth c T locs cells slots) (hx : p.tables.exec = Jvm.exec) {k : Fin 4} {v : Int64} (hd : decode c.code pc = .ok (.lstore_n k, 1)) (hq : pc + 1 = q) (hl : storeLocals Ls k.val (.long v) = some L') (K : own_Go p e below s kc ks Q (T.setTop (mkF m q L' st))) : own_Go p e below s kc ks Q (T.setTop (mkF m pc Ls (.long v :: st))) := by
  subst hq; exact own_via (fun t => XT.lstoreN X.here hx rfl hd rfl hl) K
theorem own_lstore (X : Stand p l e R s m args below meth c T locs cells slots) (hx : p.tables.exec = Jvm.exec) {k : Nat} {v : Int64} (hd : decode c.code pc = .ok (.lstore k, 2)) (hq : pc + 2 = q) (hl : storeLocals Ls k (.long v) = some L') (K : own_Go p e below s kc ks Q (T.setTop (mkF m q L' st))) : own_Go p e below s kc ks Q (T.setTop (mkF m pc Ls (.long v :: st))) := by
  subst hq; exact own_via (fun t => XT.lstore X.here hx rfl hd rfl hl) K
theorem own_astoreN (X : Stand p l e R s m args below meth c T locs cells slots) (hx : p.tables.exec = Jvm.exec) {k : Fin 4} {v : Value} (hd : decode c.code pc = .ok (.astore_n k, 1)) (hq : pc + 1 = q) (hv : v.isRef = true) (hl : storeLocals Ls k.val v = some L') (K : own_Go p e below s kc ks Q (T.setTop (mkF m q L' st))) : own_Go p e below s kc ks Q (T.setTop (mkF m pc Ls (v :: st))) := by
  subst hq; exact own_via (fun t => XS.astoreN X.here hx rfl hd rfl hv hl) K
theorem own_astore (X : Stand p l e R s m args below meth c T locs cells slots) (hx : p.tables.exec = Jvm.exec) {k : Nat} {v : Value} (hd : decode c.code pc = .ok (.astore k, 2)) (hq : pc + 2 = q) (hv : v.isRef = true) (hl : storeLocals Ls k v = some L') (K : own_Go p e below s kc ks Q (T.setTop (mkF m q L' st))) : own_Go p e below s kc ks Q (T.setTop (mkF m pc Ls (v :: st))) := by
  subst hq; exact own_via (fun t => XS.astore X.here hx rfl hd rfl hv hl) K
theorem own_iinc (X : Stand p l e R s m args below meth c T locs cells slots) (hx : p.tables.exec = Jvm.exec) {k : Nat} {i : Int} {x : Int32} (v : Int32) (hd : decode c.code pc = .ok (.iinc k i, 3)) (hq : pc + 3 = q) (hv : Int32.ofInt i = v) (hl : Ls[k]? = some (.val (.int x))) (hl' : storeLocals Ls k (.int (x + v)) = some L') (K : own_Go p e below s kc ks Q (T.setTop (mkF m q L' st))) : own_Go p e below s kc ks Q (T.setTop (mkF m pc Ls st)) := by
  subst hq; exact own_via (fun t => XT.iincV (v := v) X.here hx rfl hd hv hl hl') K
theorem own_dup (X : Stand p l e R s m args below meth c T locs cells slots) (hx : p.tables.exec = Jvm.exec) {v : Value} (hd : decode c.code pc = .ok (.dup, 1)) (hq : pc + 1 = q) (hc : v.category = 1) (K : own_Go p e below s kc ks Q (T.setTop (mkF m q Ls (v :: v :: st)))) : own_Go p e below s kc ks Q (T.setTop (mkF m pc Ls (v :: st))) := by
  subst hq; exact own_via (fun t => XS.dup X.here hx rfl hd rfl hc) K
theorem own_pop (X : Stand p l e R s m args below meth c T locs cells slots) (hx : p.tables.exec = Jvm.exec) {v : Value} (hd : decode c.code pc = .ok (.pop, 1)) (hq : pc + 1 = q) (hc : v.category = 1) (K : own_Go p e below s kc ks Q (T.setTop (mkF m q Ls st))) : own_Go p e below s kc ks Q (T.setTop (mkF m pc Ls (v :: st))) := by
  subst hq; exact own_via (fun t => XT.pop X.here hx rfl hd rfl hc) K
theorem own_dupX1 (X : Stand p l e R s m args below meth c T locs cells slots) (hx : p.tables.exec = Jvm.exec) {v w : Value} (hd : decode c.code pc = .ok (.dup_x1, 1)) (hq : pc + 1 = q) (hc : v.category = 1) (hc' : w.category = 1) (K : own_Go p e below s kc ks Q (T.setTop (mkF m q Ls (v :: w :: v :: st)))) : own_Go p e below s kc ks Q (T.setTop (mkF m pc Ls (v :: w :: st))) := by
  subst hq; exact own_via (fun t => XT.dupX1 X.here hx rfl hd rfl hc hc') K
theorem own_dup2 (X : Stand p l e R s m args below meth c T locs cells slots) (hx : p.tables.exec = Jvm.exec) {v w : Value} (hd : decode c.code pc = .ok (.dup2, 1)) (hq : pc + 1 = q) (hc : v.category = 1) (hc' : w.category = 1) (K : own_Go p e below s kc ks Q (T.setTop (mkF m q Ls (v :: w :: v :: w :: st)))) : own_Go p e below s kc ks Q (T.setTop (mkF m pc Ls (v :: w :: st))) := by
  subst hq; exact own_via (fun t => XT.dup2 X.here hx rfl hd rfl hc hc') K
theorem own_goto (X : Stand p l e R s m args below meth c T locs cells slots) (hx : p.tables.exec = Jvm.exec) {o : Int} (hd : decode c.code pc = .ok (.goto o, 3)) (ho : 0 ≤ (pc : Int) + o) (hp : ((pc : Int) + o).toNat = q) (K : own_Go p e below s kc ks Q (T.setTop (mkF m q Ls st))) : own_Go p e below s kc ks Q (T.setTop (mkF m pc Ls st)) := by
  exact own_via (fun t => XS.goto X.here hx rfl (pc0 := pc) (pc' := q) rfl hd ho hp) K
theorem own_ldc (X : Stand p l e R s m args below meth c T locs cells slots) (hx : p.tables.exec = Jvm.exec) {Z : State} {a0 : Array Value} (hZ : Z.Warmed39 s.vm) {own : String} {i : Nat} {v : Int32} (hown : s.vm.findClass own = some m.cls) (w : (Cond.constant own i v).before a0 Z = true) (hd : decode c.code pc = .ok (.ldc i, 2)) (hq : pc + 2 = q) (K : own_Go p e below s kc ks Q (T.setTop (mkF m q Ls (.int v :: st)))) : own_Go p e below s kc ks Q (T.setTop (mkF m pc Ls st)) := by
  subst hq; exact own_via (fun t => X.ldcI hx hown (mv hZ w) rfl hd) K
theorem own_ldcW (X : Stand p l e R s m args below meth c T locs cells slots) (hx : p.tables.exec = Jvm.exec) {Z : State} {a0 : Array Value} (hZ : Z.Warmed39 s.vm) {own : String} {i : Nat} {v : Int32} (hown : s.vm.findClass own = some m.cls) (w : (Cond.constant own i v).before a0 Z = true) (hd : decode c.code pc = .ok (.ldc_w i, 3)) (hq : pc + 3 = q) (K : own_Go p e below s kc ks Q (T.setTop (mkF m q Ls (.int v :: st)))) : own_Go p e below s kc ks Q (T.setTop (mkF m pc Ls st)) := by
  subst hq; exact own_via (fun t => X.ldcWI hx hown (mv hZ w) rfl hd) K
theorem own_ldc2 (X : Stand p l e R s m args below meth c T locs cells slots) (hx : p.tables.exec = Jvm.exec) {Z : State} {a0 : Array Value} (hZ : Z.Warmed39 s.vm) {own : String} {i : Nat} {v : Int64} (hown : s.vm.findClass own = some m.cls) (w : (Cond.constantLong own i v).before a0 Z = true) (hd : decode c.code pc = .ok (.ldc2_w i, 3)) (hq : pc + 3 = q) (K : own_Go p e below s kc ks Q (T.setTop (mkF m q Ls (.long v :: st)))) : own_Go p e below s kc ks Q (T.setTop (mkF m pc Ls st)) := by
  subst hq; exact own_via (fun t => X.ldc2J hx hown (mv hZ w) rfl hd) K
def own_pos : ClassFile.Cond → Bool | .eq => true | .lt => true | .gt => true | _ => false
def own_base {α : Type} [LT α] : ClassFile.Cond → α → α → Prop | .eq, x, y => x = y | .ne, x, y => x = y | .lt, x, y => x < y | .ge, x, y => x < y | .gt, x, y => y < x | .le, x, y => y < x
theorem own_ii {cd : ClassFile.Cond} {x y : Int32} : (own_base cd x y → if_icmp.holds cd x y = own_pos cd) ∧ (¬ own_base cd x y → if_icmp.holds cd x y = !own_pos cd) := by
  cases cd <;> simp only [own_base, own_pos, Bool.not_true, Bool.not_false]
  · exact ⟨XT.ii_eq_t, XT.ii_eq_f⟩
  · exact ⟨XT.ii_ne_f, XT.ii_ne_t⟩
  · exact ⟨XT.ii_lt_t, XT.ii_lt_f⟩
  · exact ⟨XT.ii_ge_f, XT.ii_ge_t⟩
  · exact ⟨XT.ii_gt_t, XT.ii_gt_f⟩
  · exact ⟨XT.ii_le_f, XT.ii_le_t⟩
theorem own_ll {cd : ClassFile.Cond} {x y : Int64} : (own_base cd x y → ifCond.holds cd (XT.cmpL x y) = own_pos cd) ∧ (¬ own_base cd x y → ifCond.holds cd (XT.cmpL x y) = !own_pos cd) := by
  cases cd <;> simp only [own_base, own_pos, Bool.not_true, Bool.not_false]
  · exact ⟨XT.ll_eq_t, XT.ll_eq_f⟩
  · exact ⟨XT.ll_ne_f, XT.ll_ne_t⟩
  · exact ⟨XT.ll_lt_t, XT.ll_lt_f⟩
  · exact ⟨XT.ll_ge_f, XT.ll_ge_t⟩
  · exact ⟨XT.ll_gt_t, XT.ll_gt_f⟩
  · exact ⟨XT.ll_le_f, XT.ll_le_t⟩
theorem own_icmpP (X : Stand p l e R s m args below meth c T locs cells slots) (hx : p.tables.exec = Jvm.exec) {x y : Int32} {cd : ClassFile.Cond} {o : Int} {pt : Nat} (hd : decode c.code pc = .ok (.if_icmp cd o, 3)) (ho : 0 ≤ (pc : Int) + o) (hp : ((pc : Int) + o).toNat = pt) (hq : pc + 3 = q) (hs : own_pos cd = true) (K1 : own_base cd x y → own_Go p e below s kc ks Q (T.setTop (mkF m pt Ls st))) (K2 : ¬ own_base cd x y → own_Go p e below s kc ks Q (T.setTop (mkF m q Ls st))) : own_Go p e below s kc ks Q (T.setTop (mkF m pc Ls (.int y :: .int x :: st))) := by
  subst hq
  by_cases h : own_base cd x y
  · exact own_via (fun t => XS.icmpYes X.here hx rfl (pc0 := pc) (pc' := pt) rfl hd rfl ((own_ii.1 h).trans hs) ho hp) (K1 h)
  · exact own_via (fun t => XS.icmpNo X.here hx rfl hd rfl ((own_ii.2 h).trans (by rw [hs]; rfl))) (K2 h)
theorem own_icmpM (X : Stand p l e R s m args below meth c T locs cells slots) (hx : p.tables.exec = Jvm.exec) {x y : Int32} {cd : ClassFile.Cond} {o : Int} {pt : Nat} (hd : decode c.code pc = .ok (.if_icmp cd o, 3)) (ho : 0 ≤ (pc : Int) + o) (hp : ((pc : Int) + o).toNat = pt) (hq : pc + 3 = q) (hs : own_pos cd = false) (K1 : ¬ own_base cd x y → own_Go p e below s kc ks Q (T.setTop (mkF m pt Ls st))) (K2 : own_base cd x y → own_Go p e below s kc ks Q (T.setTop (mkF m q Ls st))) : own_Go p e below s kc ks Q (T.setTop (mkF m pc Ls (.int y :: .int x :: st))) := by
  subst hq
  by_cases h : own_base cd x y
  · exact own_via (fun t => XS.icmpNo X.here hx rfl hd rfl ((own_ii.1 h).trans hs)) (K2 h)
  · exact own_via (fun t => XS.icmpYes X.here hx rfl (pc0 := pc) (pc' := pt) rfl hd rfl ((own_ii.2 h).trans (by rw [hs]; rfl)) ho hp) (K1 h)
theorem own_if0P (X : Stand p l e R s m args below meth c T locs cells slots) (hx : p.tables.exec = Jvm.exec) {x : Int32} {cd : ClassFile.Cond} {o : Int} {pt : Nat} (hd : decode c.code pc = .ok (.ifCond cd o, 3)) (ho : 0 ≤ (pc : Int) + o) (hp : ((pc : Int) + o).toNat = pt) (hq : pc + 3 = q) (hs : own_pos cd = true) (K1 : own_base cd x (0 : Int32) → own_Go p e below s kc ks Q (T.setTop (mkF m pt Ls st))) (K2 : ¬ own_base cd x (0 : Int32) → own_Go p e below s kc ks Q (T.setTop (mkF m q Ls st))) : own_Go p e below s kc ks Q (T.setTop (mkF m pc Ls (.int x :: st))) := by
  subst hq
  by_cases h : own_base cd x (0 : Int32)
  · exact own_via (fun t => XS.ifYes X.here hx rfl (pc0 := pc) (pc' := pt) rfl hd rfl ((if0 cd x).trans ((own_ii (y := 0).1 h).trans hs)) ho hp) (K1 h)
  · exact own_via (fun t => XS.ifNo X.here hx rfl hd rfl ((if0 cd x).trans ((own_ii (y := 0).2 h).trans (by rw [hs]; rfl)))) (K2 h)
theorem own_if0M (X : Stand p l e R s m args below meth c T locs cells slots) (hx : p.tables.exec = Jvm.exec) {x : Int32} {cd : ClassFile.Cond} {o : Int} {pt : Nat} (hd : decode c.code pc = .ok (.ifCond cd o, 3)) (ho : 0 ≤ (pc : Int) + o) (hp : ((pc : Int) + o).toNat = pt) (hq : pc + 3 = q) (hs : own_pos cd = false) (K1 : ¬ own_base cd x (0 : Int32) → own_Go p e below s kc ks Q (T.setTop (mkF m pt Ls st))) (K2 : own_base cd x (0 : Int32) → own_Go p e below s kc ks Q (T.setTop (mkF m q Ls st))) : own_Go p e below s kc ks Q (T.setTop (mkF m pc Ls (.int x :: st))) := by
  subst hq
  by_cases h : own_base cd x (0 : Int32)
  · exact own_via (fun t => XS.ifNo X.here hx rfl hd rfl ((if0 cd x).trans ((own_ii (y := 0).1 h).trans hs))) (K2 h)
  · exact own_via (fun t => XS.ifYes X.here hx rfl (pc0 := pc) (pc' := pt) rfl hd rfl ((if0 cd x).trans ((own_ii (y := 0).2 h).trans (by rw [hs]; rfl))) ho hp) (K1 h)
theorem own_ifLP (X : Stand p l e R s m args below meth c T locs cells slots) (hx : p.tables.exec = Jvm.exec) {x y : Int64} {cd : ClassFile.Cond} {o : Int} {pt : Nat} (hd : decode c.code pc = .ok (.ifCond cd o, 3)) (ho : 0 ≤ (pc : Int) + o) (hp : ((pc : Int) + o).toNat = pt) (hq : pc + 3 = q) (hs : own_pos cd = true) (K1 : own_base cd x y → own_Go p e below s kc ks Q (T.setTop (mkF m pt Ls st))) (K2 : ¬ own_base cd x y → own_Go p e below s kc ks Q (T.setTop (mkF m q Ls st))) : own_Go p e below s kc ks Q (T.setTop (mkF m pc Ls (.int (XT.cmpL x y) :: st))) := by
  subst hq
  by_cases h : own_base cd x y
  · exact own_via (fun t => XS.ifYes X.here hx rfl (pc0 := pc) (pc' := pt) rfl hd rfl ((own_ll.1 h).trans hs) ho hp) (K1 h)
  · exact own_via (fun t => XS.ifNo X.here hx rfl hd rfl ((own_ll.2 h).trans (by rw [hs]; rfl))) (K2 h)
theorem own_ifLM (X : Stand p l e R s m args below meth c T locs cells slots) (hx : p.tables.exec = Jvm.exec) {x y : Int64} {cd : ClassFile.Cond} {o : Int} {pt : Nat} (hd : decode c.code pc = .ok (.ifCond cd o, 3)) (ho : 0 ≤ (pc : Int) + o) (hp : ((pc : Int) + o).toNat = pt) (hq : pc + 3 = q) (hs : own_pos cd = false) (K1 : ¬ own_base cd x y → own_Go p e below s kc ks Q (T.setTop (mkF m pt Ls st))) (K2 : own_base cd x y → own_Go p e below s kc ks Q (T.setTop (mkF m q Ls st))) : own_Go p e below s kc ks Q (T.setTop (mkF m pc Ls (.int (XT.cmpL x y) :: st))) := by
  subst hq
  by_cases h : own_base cd x y
  · exact own_via (fun t => XS.ifNo X.here hx rfl hd rfl ((own_ll.1 h).trans hs)) (K2 h)
  · exact own_via (fun t => XS.ifYes X.here hx rfl (pc0 := pc) (pc' := pt) rfl hd rfl ((own_ll.2 h).trans (by rw [hs]; rfl)) ho hp) (K1 h)
theorem own_acmp (X : Stand p l e R s m args below meth c T locs cells slots) (hx : p.tables.exec = Jvm.exec) {cd : ACond} {v w : Value} {o : Int} {same : Bool} (hv : v.isRef = true) (hw : w.isRef = true) (hd : decode c.code pc = .ok (.if_acmp cd o, 3)) (hs : decide (v = w) = same) (ho : 0 ≤ (pc : Int) + o) (hp : q = if acV cd same = true then ((pc : Int) + o).toNat else pc + 3) (K : own_Go p e below s kc ks Q (T.setTop (mkF m q Ls st))) : own_Go p e below s kc ks Q (T.setTop (mkF m pc Ls (w :: v :: st))) := by
  exact own_via (fun t => acmp X hx rfl hv hw (pc0 := pc) rfl hd rfl hs ho hp) K
theorem own_nullY (X : Stand p l e R s m args below meth c T locs cells slots) (hx : p.tables.exec = Jvm.exec) {o : Int} (hd : decode c.code pc = .ok (.ifnull o, 3)) (ho : 0 ≤ (pc : Int) + o) (hp : ((pc : Int) + o).toNat = q) (K : own_Go p e below s kc ks Q (T.setTop (mkF m q Ls st))) : own_Go p e below s kc ks Q (T.setTop (mkF m pc Ls (.null :: st))) := by
  exact own_via (fun t => XS.ifnullYes X.here hx rfl (pc0 := pc) (pc' := q) rfl hd rfl ho hp) K
theorem own_nullN (X : Stand p l e R s m args below meth c T locs cells slots) (hx : p.tables.exec = Jvm.exec) {o : Int} {a : Addr} (hd : decode c.code pc = .ok (.ifnull o, 3)) (hq : pc + 3 = q) (K : own_Go p e below s kc ks Q (T.setTop (mkF m q Ls st))) : own_Go p e below s kc ks Q (T.setTop (mkF m pc Ls (.ref a :: st))) := by
  subst hq; exact own_via (fun t => XS.ifnullNo X.here hx rfl hd rfl) K
theorem own_nonnullY (X : Stand p l e R s m args below meth c T locs cells slots) (hx : p.tables.exec = Jvm.exec) {o : Int} {a : Addr} (hd : decode c.code pc = .ok (.ifnonnull o, 3)) (ho : 0 ≤ (pc : Int) + o) (hp : ((pc : Int) + o).toNat = q) (K : own_Go p e below s kc ks Q (T.setTop (mkF m q Ls st))) : own_Go p e below s kc ks Q (T.setTop (mkF m pc Ls (.ref a :: st))) := by
  exact own_via (fun t => XT.ifnonnullYes X.here hx rfl (pc0 := pc) (pc' := q) rfl hd rfl ho hp) K
theorem own_nonnullN (X : Stand p l e R s m args below meth c T locs cells slots) (hx : p.tables.exec = Jvm.exec) {o : Int} (hd : decode c.code pc = .ok (.ifnonnull o, 3)) (hq : pc + 3 = q) (K : own_Go p e below s kc ks Q (T.setTop (mkF m q Ls st))) : own_Go p e below s kc ks Q (T.setTop (mkF m pc Ls (.null :: st))) := by
  subst hq; exact own_via (fun t => XT.ifnonnullNo X.here hx rfl hd rfl) K
theorem own_retN (X : Stand p l e R s m args below meth c T locs cells slots) (hx : p.tables.exec = Jvm.exec) (hlk : meth.locks = false) {rest : List Value} {z : Int32} {t : FieldType} (ht : t = .boolean ∨ t = .byte ∨ t = .char ∨ t = .short) (hret : meth.sig.returnType = some t) (hd : decode c.code pc = .ok (.ireturn, 1)) (hqq : Q (some (.int (nar t z))) T.heap locs) (hc : cells ≤ kc) (hs : slots ≤ ks)  : own_Go p e below s kc ks Q (T.setTop (mkF m pc Ls (.int z :: rest))) := by
  obtain ⟨fs, hr, hrun, hended, hW, hsame⟩ := X.leave (v := (some (.int (nar t z)))) (fun h => by rw [hret] at h; cases h) hlk
  exact ⟨_, _, retN X hx hret ht hd hr, hrun, hended, _, _, rfl, hqq, ⟨_, rfl⟩, hW, hsame.mono hc hs⟩
theorem own_retI (X : Stand p l e R s m args below meth c T locs cells slots) (hx : p.tables.exec = Jvm.exec) (hlk : meth.locks = false) {rest : List Value} {z : Int32} (hret : meth.sig.returnType = some .int) (hd : decode c.code pc = .ok (.ireturn, 1)) (hqq : Q (some (.int z)) T.heap locs) (hc : cells ≤ kc) (hs : slots ≤ ks)  : own_Go p e below s kc ks Q (T.setTop (mkF m pc Ls (.int z :: rest))) := by
  obtain ⟨fs, hr, hrun, hended, hW, hsame⟩ := X.leave (v := (some (.int z))) (fun h => by rw [hret] at h; cases h) hlk
  exact ⟨_, _, retOut X hx hret rfl (Or.inl ⟨rfl, Or.inl rfl, z, rfl⟩) hd hr, hrun, hended, _, _, rfl, hqq, ⟨_, rfl⟩, hW, hsame.mono hc hs⟩
theorem own_retJ (X : Stand p l e R s m args below meth c T locs cells slots) (hx : p.tables.exec = Jvm.exec) (hlk : meth.locks = false) {rest : List Value} {z : Int64} (hret : meth.sig.returnType = some .long) (hd : decode c.code pc = .ok (.lreturn, 1)) (hqq : Q (some (.long z)) T.heap locs) (hc : cells ≤ kc) (hs : slots ≤ ks)  : own_Go p e below s kc ks Q (T.setTop (mkF m pc Ls (.long z :: rest))) := by
  obtain ⟨fs, hr, hrun, hended, hW, hsame⟩ := X.leave (v := (some (.long z))) (fun h => by rw [hret] at h; cases h) hlk
  exact ⟨_, _, retOut X hx hret rfl (Or.inr (Or.inl ⟨rfl, rfl, z, rfl⟩)) hd hr, hrun, hended, _, _, rfl, hqq, ⟨_, rfl⟩, hW, hsame.mono hc hs⟩
theorem own_retA (X : Stand p l e R s m args below meth c T locs cells slots) (hx : p.tables.exec = Jvm.exec) (hlk : meth.locks = false) {rest : List Value} {w : Value} {t : FieldType} (hw : w.isRef = true) (ht : t.isReference = true) (hn : narrow t w = w) (hret : meth.sig.returnType = some t) (hd : decode c.code pc = .ok (.areturn, 1)) (hqq : Q (some w) T.heap locs) (hc : cells ≤ kc) (hs : slots ≤ ks)  : own_Go p e below s kc ks Q (T.setTop (mkF m pc Ls (w :: rest))) := by
  obtain ⟨fs, hr, hrun, hended, hW, hsame⟩ := X.leave (v := (some w)) (fun h => by rw [hret] at h; cases h) hlk
  exact ⟨_, _, retOut X hx hret hn (Or.inr (Or.inr (Or.inr (Or.inr ⟨rfl, ht, hw⟩)))) hd hr, hrun, hended, _, _, rfl, hqq, ⟨_, rfl⟩, hW, hsame.mono hc hs⟩
theorem own_retV (X : Stand p l e R s m args below meth c T locs cells slots) (hx : p.tables.exec = Jvm.exec) (hlk : meth.locks = false) {rest : List Value} (hret : meth.sig.returnType = none) (hd : decode c.code pc = .ok (.return_, 1)) (hqq : Q none T.heap locs) (hc : cells ≤ kc) (hs : slots ≤ ks)  : own_Go p e below s kc ks Q (T.setTop (mkF m pc Ls [])) := by
  obtain ⟨fs, hr, hrun, hended, hW, hsame⟩ := X.leave (v := none) (fun _ => rfl) hlk
  exact ⟨_, _, X.returnOut hx hret hd hr, hrun, hended, _, _, rfl, hqq, ⟨_, rfl⟩, hW, hsame.mono hc hs⟩
theorem own_callS (X : Stand p l e R s m args below meth c T locs cells slots) (hx : p.tables.exec = Jvm.exec) {Z : State} {a0 : Array Value} {h : Heap} {own : String} {index : Nat} {y : MethodName} {bytes : ByteArray} {maxL : Nat} {ret : Option FieldType} {rm : Room} {W : Nat} {argsL : List Value} {Qc : Option Value → Heap → List Loc → Prop} {ps : List FieldType} {r : Option FieldType} {st0 : List Value} (hZ : Z.Warmed39 s.vm) (hown : s.vm.findClass own = some m.cls) (w1 : (Cond.methodLink own index y).before a0 Z = true) (w2 : (Cond.static y).before a0 Z = true) (w3 : (Cond.initialized y.cls).before a0 Z = true) (w4 : (Cond.code y bytes maxL ret).before a0 Z = true) (hy : y.cls ≠ "java/lang/invoke/MethodHandle" ∧ y.cls ≠ "java/lang/invoke/VarHandle") (hM : MetFree l y (head1 [Cond.code y bytes maxL ret] rm) (fun aa U => aa = argsL.toArray ∧ Z.Warmed39 U.vm ∧ U.heap = h) (fun _ _ _ _ _ => True) (fun _ U o U' => ∃ v L, o = .returned v ∧ Qc v U'.heap L ∧ FrameEnd U o U' L rm.cells rm.slots)) (hpd : parseMethodDescriptor y.desc = some ⟨ps, r⟩) (hlen : argsL.length = ps.length) (eT : T.heap = h) (hml : Ls.size = c.maxLocals) (hst : st0 = argsL.reverse ++ st) (hW : (st.map fun v => v.category).sum ≤ W) (hf : rm.frames + 1 ≤ R.frames) (hl : W + (maxL + 11) + rm.locals ≤ R.locals) (hc : cells + rm.cells ≤ R.cells) (hs : slots + rm.slots ≤ R.slots) (hd : decode c.code pc = .ok (.invokestatic index, 3)) (hq : pc + 3 = q) (K : ∀ v T' L, Stand p l e R s m args below meth c T' (locs ++ L) (cells + rm.cells) (slots + rm.slots) → Qc v T'.heap L → own_Go p e below s kc ks Q (T'.setTop (mkF m q Ls (v.toList ++ st)))) : own_Go p e below s kc ks Q (T.setTop (mkF m pc Ls st0)) := by
  subst hq hst
  obtain ⟨v, _, ⟨T', L', k', n'⟩, -, X', ⟨Lc, hQ, l', y', z'⟩, st'⟩ := Jvm.LawKit.callS X hx hown (mvT hZ w1) (mvT hZ w2) (mvT hZ w3) (mvT hZ w4) hy (backOf (W := W) hM hZ w4 w3 hf hl) (g := mkF m pc Ls (argsL.reverse ++ st)) rfl hml (argsL := argsL) (rest := st) (lenOf hpd hlen) rfl (by show 2 * 0 + _ ≤ _; omega) hd (fun _ _ => ⟨rfl, eT, hc, hs⟩)
  dsimp only [Pt.U, Pt.locs, Pt.cells, Pt.slots] at X' l' y' z' st' hQ
  subst l' y' z'
  exact own_via (fun t => st' t) (K v T' Lc X' hQ)
theorem own_callC (X : Stand p l e R s m args below meth c T locs cells slots) (hx : p.tables.exec = Jvm.exec) {a : Addr} {Z : State} {a0 : Array Value} {h : Heap} {own : String} {index : Nat} {y : MethodName} {bytes : ByteArray} {maxL : Nat} {rm : Room} {W : Nat} {argsL : List Value} {Qc : Option Value → Heap → List Loc → Prop} {ps : List FieldType} {r : Option FieldType} {st0 : List Value} (hZ : Z.Warmed39 s.vm) (hown : s.vm.findClass own = some m.cls) (hy1 : y.name = "<init>") (w1 : (Cond.methodLink own index y).before a0 Z = true) (w2 : (Cond.instanceMethod y).before a0 Z = true) (w3 : (Cond.initialized y.cls).before a0 Z = true) (w4 : (Cond.code y bytes maxL none).before a0 Z = true) (hy : y.cls ≠ "java/lang/invoke/MethodHandle" ∧ y.cls ≠ "java/lang/invoke/VarHandle") (hM : MetFree l y (head1 [Cond.code y bytes maxL none] rm) (fun aa U => aa = (.ref a :: argsL).toArray ∧ Z.Warmed39 U.vm ∧ U.heap = h) (fun _ _ _ _ _ => True) (fun _ U o U' => ∃ v L, o = .returned v ∧ Qc v U'.heap L ∧ FrameEnd U o U' L rm.cells rm.slots)) (hpd : parseMethodDescriptor y.desc = some ⟨ps, r⟩) (hlen : argsL.length = ps.length) (eT : T.heap = h) (hml : Ls.size = c.maxLocals) (hst : st0 = argsL.reverse ++ .ref a :: st) (hW : (st.map fun v => v.category).sum ≤ W) (hf : rm.frames + 1 ≤ R.frames) (hl : W + (maxL + 11) + rm.locals ≤ R.locals) (hc : cells + rm.cells ≤ R.cells) (hs : slots + rm.slots ≤ R.slots) (hd : decode c.code pc = .ok (.invokespecial index, 3)) (hq : pc + 3 = q) (K : ∀ v T' L, Stand p l e R s m args below meth c T' (locs ++ L) (cells + rm.cells) (slots + rm.slots) → Qc v T'.heap L → own_Go p e below s kc ks Q (T'.setTop (mkF m q Ls (v.toList ++ st)))) : own_Go p e below s kc ks Q (T.setTop (mkF m pc Ls st0)) := by
  subst hq hst
  obtain ⟨v, _, ⟨T', L', k', n'⟩, -, X', ⟨Lc, hQ, l', y', z'⟩, st'⟩ := X.specialBack hx hy1 hown (mvT hZ w1) (mvT hZ w2) (mvT hZ w4) hy (backOf (W := W) hM hZ w4 w3 hf hl) (g := mkF m pc Ls (argsL.reverse ++ .ref a :: st)) rfl hml (Steps.refl _) (a := a) (argsL := argsL) (rest := st) (lenOf hpd hlen) rfl (by show 2 * 0 + _ ≤ _; omega) hd (fun _ _ => ⟨rfl, eT, hc, hs⟩)
  dsimp only [Pt.U, Pt.locs, Pt.cells, Pt.slots] at X' l' y' z' st' hQ
  subst l' y' z'
  exact own_via (fun t => st'.trans) (K v T' Lc X' hQ)
theorem own_callV (X : Stand p l e R s m args below meth c T locs cells slots) (hx : p.tables.exec = Jvm.exec) {a : Addr} {C : String} {z : MethodName} {Z : State} {a0 : Array Value} {h : Heap} {own : String} {index : Nat} {y : MethodName} {bytes : ByteArray} {maxL : Nat} {ret : Option FieldType} {rm : Room} {W : Nat} {argsL : List Value} {Qc : Option Value → Heap → List Loc → Prop} {ps : List FieldType} {r : Option FieldType} {st0 : List Value} (hZ : Z.Warmed39 s.vm) (hown : s.vm.findClass own = some m.cls) (w1 : (Cond.methodLink own index y).before a0 Z = true) (w2 : (Cond.declares y).before a0 Z = true) (w5 : (Cond.selects y.cls y y).before a0 Z = true) (w6 : (Cond.selects C y z).before a0 Z = true) (w7 : (Cond.instanceMethod z).before a0 Z = true) (w3 : (Cond.initialized z.cls).before a0 Z = true) (w4 : (Cond.code z bytes maxL ret).before a0 Z = true) (E : Exa Z h a C) (hy : y.cls ≠ "java/lang/invoke/MethodHandle" ∧ y.cls ≠ "java/lang/invoke/VarHandle") (hM : MetFree l z (head1 [Cond.code z bytes maxL ret] rm) (fun aa U => aa = (.ref a :: argsL).toArray ∧ Z.Warmed39 U.vm ∧ U.heap = h) (fun _ _ _ _ _ => True) (fun _ U o U' => ∃ v L, o = .returned v ∧ Qc v U'.heap L ∧ FrameEnd U o U' L rm.cells rm.slots)) (hpd : parseMethodDescriptor y.desc = some ⟨ps, r⟩) (hlen : argsL.length = ps.length) (eT : T.heap = h) (hml : Ls.size = c.maxLocals) (hst : st0 = argsL.reverse ++ .ref a :: st) (hW : (st.map fun v => v.category).sum ≤ W) (hf : rm.frames + 1 ≤ R.frames) (hl : W + (maxL + 11) + rm.locals ≤ R.locals) (hc : cells + rm.cells ≤ R.cells) (hs : slots + rm.slots ≤ R.slots) (hd : decode c.code pc = .ok (.invokevirtual index, 3)) (hq : pc + 3 = q) (K : ∀ v T' L, Stand p l e R s m args below meth c T' (locs ++ L) (cells + rm.cells) (slots + rm.slots) → Qc v T'.heap L → own_Go p e below s kc ks Q (T'.setTop (mkF m q Ls (v.toList ++ st)))) : own_Go p e below s kc ks Q (T.setTop (mkF m pc Ls st0)) := by
  subst hq hst
  obtain ⟨cq, kq, qa, qb, qc⟩ := isOf hZ eT E
  obtain ⟨v, _, ⟨T', L', k', n'⟩, -, X', ⟨Lc, hQ, l', y', z'⟩, st'⟩ := X.virtualBack hx (y := y) (z := z) hown (mvT hZ w1) (mvT hZ w2) (notFace_of_selects (args := #[]) (mvT hZ w5)) (mvT hZ w6) (mvT hZ w7) hy (backOf (W := W) hM hZ w4 w3 hf hl) qa qc (g := mkF m pc Ls (argsL.reverse ++ .ref a :: st)) rfl hml (Steps.refl _) (argsL := argsL) (rest := st) (lenOf hpd hlen) rfl (by show 2 * 0 + _ ≤ _; omega) hd (fun _ _ => ⟨rfl, eT, hc, hs⟩)
  dsimp only [Pt.U, Pt.locs, Pt.cells, Pt.slots] at X' l' y' z' st' hQ
  subst l' y' z'
  exact own_via (fun t => st'.trans) (K v T' Lc X' hQ)
theorem own_new (X : Stand p l e R s m args below meth c T locs cells slots) (hx : p.tables.exec = Jvm.exec) {Z : State} {a0 : Array Value} {h : Heap} (hZ : Z.Warmed39 s.vm) {own : String} {i : Nat} (hown : s.vm.findClass own = some m.cls) {C : String} {n : Nat} (w : (Cond.classLink own i C).before a0 Z = true) (wi : (Cond.instantiable C n).before a0 Z = true) (wz : (Cond.initialized C).before a0 Z = true) (eT : T.heap = h) (hd : decode c.code pc = .ok (.new i, 3)) (hc : cells + 1 ≤ R.cells) (hl : slots + n ≤ R.slots) (hq : pc + 3 = q) (K : ∀ T' h' a, Stand p l e R s m args below meth c T' locs (cells + 1) (slots + n) → T'.heap = h' → a = h.size → Ext h h' → Exa Z h' a C → (∀ {O nm d : String} {ty : FieldType}, Laid Z a0 C O nm d → parseFieldDescriptor d = some ty → Fld Z h' a O nm d (defaultValue ty)) → own_Go p e below s kc ks Q (T'.setTop (mkF m q Ls (.ref a :: st)))) : own_Go p e below s kc ks Q (T.setTop (mkF m pc Ls st)) := by
  subst hq
  obtain ⟨T', h', X', e', E', A', D', -, st'⟩ := newO X hx hZ hown w wi wz eT (g := mkF m pc Ls st) rfl hd hc hl
  exact own_via (fun t => st' t) (K T' h' _ X' e' rfl E' A' D')
theorem own_getF (X : Stand p l e R s m args below meth c T locs cells slots) (hx : p.tables.exec = Jvm.exec) {Z : State} {a0 : Array Value} {h : Heap} (hZ : Z.Warmed39 s.vm) {own : String} {i : Nat} (hown : s.vm.findClass own = some m.cls) {a : Addr} {v : Value} {R0 O n d host : String} (w : (Cond.fieldLink own i R0 n d).before a0 Z = true ∨ (Cond.fieldLinkNest own i R0 n d host).before a0 Z = true) (via : Via Z R0 O n d) (eT : T.heap = h) (F : Fld Z h a O n d v) (hd : decode c.code pc = .ok (.getfield i, 3)) (hq : pc + 3 = q) (K : ∀ T', Stand p l e R s m args below meth c T' locs cells slots → T'.heap = h → own_Go p e below s kc ks Q (T'.setTop (mkF m q Ls (v :: st)))) : own_Go p e below s kc ks Q (T.setTop (mkF m pc Ls (.ref a :: st))) := by
  subst hq
  obtain ⟨T', X', e', st'⟩ := getF X hx hZ hown w via eT F (g := mkF m pc Ls (.ref a :: st)) rfl rfl hd
  exact own_via (fun t => st' t) (K T' X' e')
theorem own_putF (X : Stand p l e R s m args below meth c T locs cells slots) (hx : p.tables.exec = Jvm.exec) {Z : State} {a0 : Array Value} {h : Heap} (hZ : Z.Warmed39 s.vm) {own : String} {i : Nat} (hown : s.vm.findClass own = some m.cls) {a : Addr} {v old : Value} {R0 O n d host C : String} {kk : Nat} {ty : FieldType} (w : (Cond.fieldLink own i R0 n d).before a0 Z = true ∨ (Cond.fieldLinkNest own i R0 n d host).before a0 Z = true) (via : Via Z R0 O n d) (eT : T.heap = h) (F : Fld Z h a O n d old) (E : Exa Z h a C) (L : (Cond.lays C O n d).before a0 Z = true ∨ ((Cond.laysFinal C O n d).before a0 Z = true ∧ own = O ∧ meth.name = "<init>")) (wi : (Cond.instantiable C kk).before a0 Z = true) (hty : parseFieldDescriptor d = some ty) (hn : narrow ty v = v) (hf : fits ty v = true) (hd : decode c.code pc = .ok (.putfield i, 3)) (hq : pc + 3 = q) (K : ∀ T' h', Stand p l e R s m args below meth c T' (locs ++ [⟨a, RoadKit.slotOf Z O n d⟩]) cells slots → T'.heap = h' → Wr h h' a (RoadKit.slotOf Z O n d) v → own_Go p e below s kc ks Q (T'.setTop (mkF m q Ls st))) : own_Go p e below s kc ks Q (T.setTop (mkF m pc Ls (v :: .ref a :: st))) := by
  subst hq
  obtain ⟨T', h', X', e', W', st'⟩ := putF X hx hZ hown w via eT F E L wi hty hn hf (g := mkF m pc Ls (v :: .ref a :: st)) rfl rfl hd
  exact own_via (fun t => st' t) (K T' h' X' e' W')
theorem own_initO (X : Stand p l e R s m args below meth c T locs cells slots) (hx : p.tables.exec = Jvm.exec) {Z : State} {a0 : Array Value} {h : Heap} (hZ : Z.Warmed39 s.vm) {own : String} {i : Nat} (hown : s.vm.findClass own = some m.cls) {a : Addr} {W : Nat} (w1 : (Cond.methodLink own i Lib.objectInit).before a0 Z = true) (w2 : (Cond.instanceMethod Lib.objectInit).before a0 Z = true) (w3 : (Cond.code Lib.objectInit ⟨#[0xb1]⟩ 1 none).before a0 Z = true) (eT : T.heap = h) (hml : Ls.size = c.maxLocals) (hf : 1 ≤ R.frames) (hW : (st.map fun v => v.category).sum ≤ W) (hl : W + 12 ≤ R.locals) (hd : decode c.code pc = .ok (.invokespecial i, 3)) (hq : pc + 3 = q) (K : ∀ T', Stand p l e R s m args below meth c T' locs cells slots → T'.heap = h → own_Go p e below s kc ks Q (T'.setTop (mkF m q Ls st))) : own_Go p e below s kc ks Q (T.setTop (mkF m pc Ls (.ref a :: st))) := by
  subst hq
  obtain ⟨T', X', e', st'⟩ := initO X hx hZ hown w1 w2 w3 eT (g := mkF m pc Ls (.ref a :: st)) rfl hml rfl hd hf (W := W) (by show 2 * 0 + _ ≤ _; omega) hl
  exact own_via (fun t => st' t) (K T' X' e')
theorem own_getS (X : Stand p l e R s m args below meth c T locs cells slots) (hx : p.tables.exec = Jvm.exec) {Z : State} {a0 : Array Value} {h : Heap} (hZ : Z.Warmed39 s.vm) {own : String} {i : Nat} (hown : s.vm.findClass own = some m.cls) {v : Value} {R0 O n d : String} (w : (Cond.fieldLink own i R0 n d).before a0 Z = true) (via : Via Z R0 O n d) (eT : T.heap = h) (F : Sta Z h O n d v) (hd : decode c.code pc = .ok (.getstatic i, 3)) (hq : pc + 3 = q) (K : ∀ T', Stand p l e R s m args below meth c T' locs cells slots → T'.heap = h → own_Go p e below s kc ks Q (T'.setTop (mkF m q Ls (v :: st)))) : own_Go p e below s kc ks Q (T.setTop (mkF m pc Ls st)) := by
  subst hq
  obtain ⟨T', X', e', st'⟩ := getS X hx hZ (host := "") hown w via eT F (g := mkF m pc Ls st) rfl hd
  exact own_via (fun t => st' t) (K T' X' e')
def own_V (h : Heap) (v : Option Value) (h' : Heap) (L : List Loc) : Prop := v = none ∧ h' = h ∧ L = []
def own_Like (X : Stand p l e R s m args below meth c T locs cells slots) (T' : State) : Prop := Stand p l e R s m args below meth c T' locs cells slots ∧ T'.heap = T.heap
def own_A (Z : State) (h : Heap) (a : Addr) (ty : FieldType) (vs : List Value) : Prop := ∃ c : Cell, Arr Z h a c ty ∧ c.slots.toList = vs
theorem own_A.lt {Z : State} {h : Heap} {a : Addr} {ty : FieldType} {vs : List Value} (F : own_A Z h a ty vs) : a < h.size := by obtain ⟨c, A, -⟩ := F; exact A.lt
theorem own_A.ext {Z : State} {h h' : Heap} {a : Addr} {ty : FieldType} {vs : List Value} (F : own_A Z h a ty vs) (E : Ext h h') : own_A Z h' a ty vs := by obtain ⟨c, A, r⟩ := F; exact ⟨c, A.ext E, r⟩
theorem own_A.other {Z : State} {h h' : Heap} {a b : Addr} {ty : FieldType} {vs : List Value} {sl : Nat} {v : Value} (F : own_A Z h b ty vs) (W : Wr h h' a sl v) (q : b ≠ a) : own_A Z h' b ty vs := by obtain ⟨c, A, r⟩ := F; exact ⟨c, A.other W q, r⟩
theorem own_A.keep {Z : State} {h h' : Heap} {a : Addr} {ty : FieldType} {vs : List Value} {ws : List Addr} (F : own_A Z h a ty vs) (K : Keep h h' ws) (q : a ∉ ws) : own_A Z h' a ty vs := by obtain ⟨c, A, r⟩ := F; exact ⟨c, ⟨K.2.1 a c A.1 q, A.2⟩, r⟩
theorem own_A.set {Z : State} {h h' : Heap} {a : Addr} {ty : FieldType} {vs : List Value} {i : Nat} {v : Value} (F : own_A Z h a ty vs) (W : Wr h h' a i v) : own_A Z h' a ty (vs.set i v) := by
  obtain ⟨c, A, rfl⟩ := F; exact ⟨_, A.same W, by simp [Cell.setSlot]⟩
theorem own_in {c : Cell} {j : Int32} {i : Nat} (hn : ¬ j < 0) (hj : j.toNatClampNeg = i) (hi : i < c.slots.toList.length) : ¬ (j < 0 ∨ c.slots.size ≤ j.toNatClampNeg) := by
  rintro (h | h)
  · exact hn h
  · rw [hj] at h; rw [Array.length_toList] at hi; exact absurd hi (Nat.not_lt.mpr h)
theorem own_iaload (X : Stand p l e R s m args below meth c T locs cells slots) (hx : p.tables.exec = Jvm.exec) {Z : State} {h : Heap} (hZ : Z.Warmed39 s.vm) {a : Addr} {j : Int32} {i : Nat} {vs : List Value} (eT : T.heap = h) {v : Value} (F : own_A Z h a .int vs) (hn : ¬ j < 0) (hj : j.toNatClampNeg = i) (hv : vs[i]? = some v) (hd : decode c.code pc = .ok (.iaload, 1)) (hq : pc + 1 = q) (K : own_Go p e below s kc ks Q (T.setTop (mkF m q Ls (v :: st)))) : own_Go p e below s kc ks Q (T.setTop (mkF m pc Ls (.int j :: .ref a :: st))) := by
  subst hq
  obtain ⟨cl, A, rfl⟩ := F
  have hv' : cl.slots[j.toNatClampNeg]? = some v := by rw [hj, ← Array.getElem?_toList]; exact hv
  have hin := own_in (c := cl) hn hj (List.getElem?_eq_some_iff.mp hv).1
  exact own_via (fun t => X.iaload hx (by rw [eT]; exact A.1) (State.isArrayOf_alike hZ.alike A.2.1) A.2.2 hin hv' (g := mkF m pc Ls (.int j :: .ref a :: st)) rfl rfl hd t) K
theorem own_laload (X : Stand p l e R s m args below meth c T locs cells slots) (hx : p.tables.exec = Jvm.exec) {Z : State} {h : Heap} (hZ : Z.Warmed39 s.vm) {a : Addr} {j : Int32} {i : Nat} {vs : List Value} (eT : T.heap = h) {v : Value} (F : own_A Z h a .long vs) (hn : ¬ j < 0) (hj : j.toNatClampNeg = i) (hv : vs[i]? = some v) (hd : decode c.code pc = .ok (.laload, 1)) (hq : pc + 1 = q) (K : own_Go p e below s kc ks Q (T.setTop (mkF m q Ls (v :: st)))) : own_Go p e below s kc ks Q (T.setTop (mkF m pc Ls (.int j :: .ref a :: st))) := by
  subst hq
  obtain ⟨cl, A, rfl⟩ := F
  have hv' : cl.slots[j.toNatClampNeg]? = some v := by rw [hj, ← Array.getElem?_toList]; exact hv
  have hin := own_in (c := cl) hn hj (List.getElem?_eq_some_iff.mp hv).1
  exact own_via (fun t => X.laload hx (by rw [eT]; exact A.1) (State.isArrayOf_alike hZ.alike A.2.1) A.2.2 hin hv' (g := mkF m pc Ls (.int j :: .ref a :: st)) rfl rfl hd t) K
theorem own_caload (X : Stand p l e R s m args below meth c T locs cells slots) (hx : p.tables.exec = Jvm.exec) {Z : State} {h : Heap} (hZ : Z.Warmed39 s.vm) {a : Addr} {j : Int32} {i : Nat} {vs : List Value} (eT : T.heap = h) {v : Value} (F : own_A Z h a .char vs) (hn : ¬ j < 0) (hj : j.toNatClampNeg = i) (hv : vs[i]? = some v) (hd : decode c.code pc = .ok (.caload, 1)) (hq : pc + 1 = q) (K : own_Go p e below s kc ks Q (T.setTop (mkF m q Ls (v :: st)))) : own_Go p e below s kc ks Q (T.setTop (mkF m pc Ls (.int j :: .ref a :: st))) := by
  subst hq
  obtain ⟨cl, A, rfl⟩ := F
  have hv' : cl.slots[j.toNatClampNeg]? = some v := by rw [hj, ← Array.getElem?_toList]; exact hv
  have hin := own_in (c := cl) hn hj (List.getElem?_eq_some_iff.mp hv).1
  exact own_via (fun t => X.caload hx (by rw [eT]; exact A.1) (State.isArrayOf_alike hZ.alike A.2.1) A.2.2 hin hv' (g := mkF m pc Ls (.int j :: .ref a :: st)) rfl rfl hd t) K
theorem own_baload (X : Stand p l e R s m args below meth c T locs cells slots) (hx : p.tables.exec = Jvm.exec) {Z : State} {h : Heap} (hZ : Z.Warmed39 s.vm) {a : Addr} {j : Int32} {i : Nat} {vs : List Value} (eT : T.heap = h) {v : Value} (F : own_A Z h a .byte vs) (hn : ¬ j < 0) (hj : j.toNatClampNeg = i) (hv : vs[i]? = some v) (hd : decode c.code pc = .ok (.baload, 1)) (hq : pc + 1 = q) (K : own_Go p e below s kc ks Q (T.setTop (mkF m q Ls (v :: st)))) : own_Go p e below s kc ks Q (T.setTop (mkF m pc Ls (.int j :: .ref a :: st))) := by
  subst hq
  obtain ⟨cl, A, rfl⟩ := F
  have hv' : cl.slots[j.toNatClampNeg]? = some v := by rw [hj, ← Array.getElem?_toList]; exact hv
  have hin := own_in (c := cl) hn hj (List.getElem?_eq_some_iff.mp hv).1
  exact own_via (fun t => X.baloadBytes hx (by rw [eT]; exact A.1) (State.isArrayOf_alike hZ.alike A.2.1) A.2.2 hin hv' (g := mkF m pc Ls (.int j :: .ref a :: st)) rfl rfl hd t) K
theorem own_zaload (X : Stand p l e R s m args below meth c T locs cells slots) (hx : p.tables.exec = Jvm.exec) {Z : State} {h : Heap} (hZ : Z.Warmed39 s.vm) {a : Addr} {j : Int32} {i : Nat} {vs : List Value} (eT : T.heap = h) {v : Value} (F : own_A Z h a .boolean vs) (hn : ¬ j < 0) (hj : j.toNatClampNeg = i) (hv : vs[i]? = some v) (hd : decode c.code pc = .ok (.baload, 1)) (hq : pc + 1 = q) (K : own_Go p e below s kc ks Q (T.setTop (mkF m q Ls (v :: st)))) : own_Go p e below s kc ks Q (T.setTop (mkF m pc Ls (.int j :: .ref a :: st))) := by
  subst hq
  obtain ⟨cl, A, rfl⟩ := F
  have hv' : cl.slots[j.toNatClampNeg]? = some v := by rw [hj, ← Array.getElem?_toList]; exact hv
  have hin := own_in (c := cl) hn hj (List.getElem?_eq_some_iff.mp hv).1
  exact own_via (fun t => X.baloadBooleans hx (by rw [eT]; exact A.1) (State.isArrayOf_alike hZ.alike A.2.1) A.2.2 hin hv' (g := mkF m pc Ls (.int j :: .ref a :: st)) rfl rfl hd t) K
theorem own_alen (X : Stand p l e R s m args below meth c T locs cells slots) (hx : p.tables.exec = Jvm.exec) {Z : State} {h : Heap} (hZ : Z.Warmed39 s.vm) {a : Addr} {vs : List Value} {ty : FieldType} {n : Int32} (eT : T.heap = h) (F : own_A Z h a ty vs) (hn : vs.length.toInt32 = n) (hd : decode c.code pc = .ok (.arraylength, 1)) (hq : pc + 1 = q) (K : own_Go p e below s kc ks Q (T.setTop (mkF m q Ls (.int n :: st)))) : own_Go p e below s kc ks Q (T.setTop (mkF m pc Ls (.ref a :: st))) := by
  subst hq
  obtain ⟨cl, A, rfl⟩ := F
  rw [Array.length_toList] at hn
  subst hn
  exact own_via (fun t => X.arraylength hx (by rw [eT]; exact A.1) (State.isArrayOf_alike hZ.alike A.2.1) (g := mkF m pc Ls (.ref a :: st)) rfl rfl hd t) K
theorem own_iastore (X : Stand p l e R s m args below meth c T locs cells slots) (hx : p.tables.exec = Jvm.exec) {Z : State} {h : Heap} (hZ : Z.Warmed39 s.vm) {a : Addr} {j : Int32} {i : Nat} {vs : List Value} (eT : T.heap = h) {x : Int32} (F : own_A Z h a .int vs) (hn : ¬ j < 0) (hj : j.toNatClampNeg = i) (hi : i < vs.length) (hd : decode c.code pc = .ok (.iastore, 1)) (hq : pc + 1 = q) (K : ∀ T' h', Stand p l e R s m args below meth c T' (locs ++ [⟨a, i⟩]) cells slots → T'.heap = h' → Wr h h' a i (.int x) → own_A Z h' a .int (vs.set i (.int x)) → own_Go p e below s kc ks Q (T'.setTop (mkF m q Ls st))) : own_Go p e below s kc ks Q (T.setTop (mkF m pc Ls (.int x :: .int j :: .ref a :: st))) := by
  subst hq hj
  have F' := F
  obtain ⟨cl, A, rfl⟩ := F
  have hin := own_in (c := cl) hn rfl hi
  obtain ⟨T', h', X', e', W', st'⟩ := stI X hx hZ eT A hin (g := mkF m pc Ls (.int x :: .int j :: .ref a :: st)) rfl rfl hd
  exact own_via (fun t => st' t) (K T' h' X' e' W' (F'.set W'))
theorem own_lastore (X : Stand p l e R s m args below meth c T locs cells slots) (hx : p.tables.exec = Jvm.exec) {Z : State} {h : Heap} (hZ : Z.Warmed39 s.vm) {a : Addr} {j : Int32} {i : Nat} {vs : List Value} (eT : T.heap = h) {x : Int64} (F : own_A Z h a .long vs) (hn : ¬ j < 0) (hj : j.toNatClampNeg = i) (hi : i < vs.length) (hd : decode c.code pc = .ok (.lastore, 1)) (hq : pc + 1 = q) (K : ∀ T' h', Stand p l e R s m args below meth c T' (locs ++ [⟨a, i⟩]) cells slots → T'.heap = h' → Wr h h' a i (.long x) → own_A Z h' a .long (vs.set i (.long x)) → own_Go p e below s kc ks Q (T'.setTop (mkF m q Ls st))) : own_Go p e below s kc ks Q (T.setTop (mkF m pc Ls (.long x :: .int j :: .ref a :: st))) := by
  subst hq hj
  have F' := F
  obtain ⟨cl, A, rfl⟩ := F
  have hin := own_in (c := cl) hn rfl hi
  obtain ⟨T', h', X', e', W', st'⟩ := stJ X hx hZ eT A hin (g := mkF m pc Ls (.long x :: .int j :: .ref a :: st)) rfl rfl hd
  exact own_via (fun t => st' t) (K T' h' X' e' W' (F'.set W'))
theorem own_castore (X : Stand p l e R s m args below meth c T locs cells slots) (hx : p.tables.exec = Jvm.exec) {Z : State} {h : Heap} (hZ : Z.Warmed39 s.vm) {a : Addr} {j : Int32} {i : Nat} {vs : List Value} (eT : T.heap = h) {x : Int32} (F : own_A Z h a .char vs) (hn : ¬ j < 0) (hj : j.toNatClampNeg = i) (hi : i < vs.length) (hd : decode c.code pc = .ok (.castore, 1)) (hq : pc + 1 = q) (K : ∀ T' h', Stand p l e R s m args below meth c T' (locs ++ [⟨a, i⟩]) cells slots → T'.heap = h' → Wr h h' a i (.int (nar .char x)) → own_A Z h' a .char (vs.set i (.int (nar .char x))) → own_Go p e below s kc ks Q (T'.setTop (mkF m q Ls st))) : own_Go p e below s kc ks Q (T.setTop (mkF m pc Ls (.int x :: .int j :: .ref a :: st))) := by
  subst hq hj
  have F' := F
  obtain ⟨cl, A, rfl⟩ := F
  have hin := own_in (c := cl) hn rfl hi
  obtain ⟨T', h', X', e', W', st'⟩ := stC X hx hZ eT A hin (g := mkF m pc Ls (.int x :: .int j :: .ref a :: st)) rfl rfl hd
  exact own_via (fun t => st' t) (K T' h' X' e' W' (F'.set W'))
theorem own_bastore (X : Stand p l e R s m args below meth c T locs cells slots) (hx : p.tables.exec = Jvm.exec) {Z : State} {h : Heap} (hZ : Z.Warmed39 s.vm) {a : Addr} {j : Int32} {i : Nat} {vs : List Value} (eT : T.heap = h) {x : Int32} (F : own_A Z h a .byte vs) (hn : ¬ j < 0) (hj : j.toNatClampNeg = i) (hi : i < vs.length) (hd : decode c.code pc = .ok (.bastore, 1)) (hq : pc + 1 = q) (K : ∀ T' h', Stand p l e R s m args below meth c T' (locs ++ [⟨a, i⟩]) cells slots → T'.heap = h' → Wr h h' a i (.int x.toInt8.toInt32) → own_A Z h' a .byte (vs.set i (.int x.toInt8.toInt32)) → own_Go p e below s kc ks Q (T'.setTop (mkF m q Ls st))) : own_Go p e below s kc ks Q (T.setTop (mkF m pc Ls (.int x :: .int j :: .ref a :: st))) := by
  subst hq hj
  have F' := F
  obtain ⟨cl, A, rfl⟩ := F
  have hin := own_in (c := cl) hn rfl hi
  obtain ⟨T', h', X', e', W', st'⟩ := stB X hx hZ eT A hin (g := mkF m pc Ls (.int x :: .int j :: .ref a :: st)) rfl rfl hd
  exact own_via (fun t => st' t) (K T' h' X' e' W' (F'.set W'))
theorem own_zastore (X : Stand p l e R s m args below meth c T locs cells slots) (hx : p.tables.exec = Jvm.exec) {Z : State} {h : Heap} (hZ : Z.Warmed39 s.vm) {a : Addr} {j : Int32} {i : Nat} {vs : List Value} (eT : T.heap = h) {x : Int32} (F : own_A Z h a .boolean vs) (hn : ¬ j < 0) (hj : j.toNatClampNeg = i) (hi : i < vs.length) (hd : decode c.code pc = .ok (.bastore, 1)) (hq : pc + 1 = q) (K : ∀ T' h', Stand p l e R s m args below meth c T' (locs ++ [⟨a, i⟩]) cells slots → T'.heap = h' → Wr h h' a i (.int (nar .boolean x)) → own_A Z h' a .boolean (vs.set i (.int (nar .boolean x))) → own_Go p e below s kc ks Q (T'.setTop (mkF m q Ls st))) : own_Go p e below s kc ks Q (T.setTop (mkF m pc Ls (.int x :: .int j :: .ref a :: st))) := by
  subst hq hj
  have F' := F
  obtain ⟨cl, A, rfl⟩ := F
  have hin := own_in (c := cl) hn rfl hi
  obtain ⟨T', h', X', e', W', st'⟩ := stZ X hx hZ eT A hin (g := mkF m pc Ls (.int x :: .int j :: .ref a :: st)) rfl rfl hd
  exact own_via (fun t => st' t) (K T' h' X' e' W' (F'.set W'))
theorem own_newA (X : Stand p l e R s m args below meth c T locs cells slots) (hx : p.tables.exec = Jvm.exec) {Z : State} {a0 : Array Value} {h : Heap} (hZ : Z.Warmed39 s.vm) {aty : ArrayType} {ty : FieldType} {n : Int32} {k cap : Nat} (hty : newarray.typeOf aty = ty) (w : (Cond.arrayClass ty).before a0 Z = true) (eT : T.heap = h) (hn : ¬ n < 0) (hk : n.toNatClampNeg = k) (hcap : k ≤ cap) (hb8 : cap * 8 ≤ 536870912) (hc : cells + 1 ≤ R.cells) (hl : slots + cap ≤ R.slots) (hd : decode c.code pc = .ok (.newarray aty, 2)) (hq : pc + 2 = q) (K : ∀ T' h' a, Stand p l e R s m args below meth c T' locs (cells + 1) (slots + cap) → T'.heap = h' → a = h.size → Ext h h' → own_A Z h' a ty (List.replicate k (defaultValue ty)) → own_Go p e below s kc ks Q (T'.setTop (mkF m q Ls (.ref a :: st)))) : own_Go p e below s kc ks Q (T.setTop (mkF m pc Ls (.int n :: st))) := by
  subst hq hty hk
  obtain ⟨T', h', cA, X', e', E', A', st'⟩ := newP X hx hZ w eT (g := mkF m pc Ls (.int n :: st)) rfl hd rfl hn hcap hb8 hc hl
  exact own_via (fun t => st' t) (K T' h' _ X' e' rfl E' ⟨_, A', by simp [newA]⟩)
theorem own_lswHit (X : Stand p l e R s m args below meth c T locs cells slots) (hx : p.tables.exec = Jvm.exec) {k : Int32} {dflt : Int} {prs : Array (Int × Int)} {len : Nat} {v : Int32} {b off : Int} (hk : k = v) (hd : decode c.code pc = .ok (.lookupswitch dflt prs, len)) (hs : (prs.toList.zip (prs.toList.drop 1)).all (fun (a, next) => a.1 < next.1) = true) (hf : prs.find? (·.1 == v.toInt) = some (b, off)) (ho : 0 ≤ (pc : Int) + off) (hp : ((pc : Int) + off).toNat = q) (K : own_Go p e below s kc ks Q (T.setTop (mkF m q Ls st))) : own_Go p e below s kc ks Q (T.setTop (mkF m pc Ls (.int k :: st))) := by
  subst hk hp; exact own_via (fun t => X.lookupswitchHit hx (g := mkF m pc Ls (.int k :: st)) rfl rfl hd hs hf ho t) K
theorem own_lswMiss (X : Stand p l e R s m args below meth c T locs cells slots) (hx : p.tables.exec = Jvm.exec) {k : Int32} {dflt : Int} {prs : Array (Int × Int)} {len : Nat} (hm : prs.find? (·.1 == k.toInt) = none) (hd : decode c.code pc = .ok (.lookupswitch dflt prs, len)) (hs : (prs.toList.zip (prs.toList.drop 1)).all (fun (a, next) => a.1 < next.1) = true) (ho : 0 ≤ (pc : Int) + dflt) (hp : ((pc : Int) + dflt).toNat = q) (K : own_Go p e below s kc ks Q (T.setTop (mkF m q Ls st))) : own_Go p e below s kc ks Q (T.setTop (mkF m pc Ls (.int k :: st))) := by
  subst hp; exact own_via (fun t => X.lookupswitchMiss hx (g := mkF m pc Ls (.int k :: st)) rfl rfl hd hs hm ho t) K
theorem own_instY (X : Stand p l e R s m args below meth c T locs cells slots) (hx : p.tables.exec = Jvm.exec) {Z : State} {a0 : Array Value} {h : Heap} (hZ : Z.Warmed39 s.vm) {own : String} {i : Nat} (hown : s.vm.findClass own = some m.cls) {a : Addr} {K0 : String} (w : (Cond.classLink own i K0).before a0 Z = true) (eT : T.heap = h) (F : Ins Z h a K0 true) (hd : decode c.code pc = .ok (.instanceof i, 3)) (hq : pc + 3 = q) (K : ∀ T', Stand p l e R s m args below meth c T' locs cells slots → T'.heap = h → own_Go p e below s kc ks Q (T'.setTop (mkF m q Ls (.int 1 :: st)))) : own_Go p e below s kc ks Q (T.setTop (mkF m pc Ls (.ref a :: st))) := by
  subst hq
  obtain ⟨T', X', e', st'⟩ := instY X hx hZ hown w eT F (g := mkF m pc Ls (.ref a :: st)) rfl rfl hd
  exact own_via (fun t => st' t) (K T' X' e')
theorem own_instN (X : Stand p l e R s m args below meth c T locs cells slots) (hx : p.tables.exec = Jvm.exec) {Z : State} {a0 : Array Value} {h : Heap} (hZ : Z.Warmed39 s.vm) {own : String} {i : Nat} (hown : s.vm.findClass own = some m.cls) {a : Addr} {K0 C : String} (w : (Cond.classLink own i K0).before a0 Z = true) (eT : T.heap = h) (E : Exa Z h a C) (F : ∃ c t, Z.vm.findClass C = some c ∧ Z.vm.findClass K0 = some t ∧ Z.vm.assignable c t = false) (hd : decode c.code pc = .ok (.instanceof i, 3)) (hq : pc + 3 = q) (K : ∀ T', Stand p l e R s m args below meth c T' locs cells slots → T'.heap = h → own_Go p e below s kc ks Q (T'.setTop (mkF m q Ls (.int 0 :: st)))) : own_Go p e below s kc ks Q (T.setTop (mkF m pc Ls (.ref a :: st))) := by
  subst hq
  obtain ⟨T', X', e', st'⟩ := instNo X hx hZ hown w eT E F (g := mkF m pc Ls (.ref a :: st)) rfl rfl hd
  exact own_via (fun t => st' t) (K T' X' e')
theorem own_cast (X : Stand p l e R s m args below meth c T locs cells slots) (hx : p.tables.exec = Jvm.exec) {Z : State} {a0 : Array Value} {h : Heap} (hZ : Z.Warmed39 s.vm) {own : String} {i : Nat} (hown : s.vm.findClass own = some m.cls) {a : Addr} {K0 : String} (w : (Cond.classLink own i K0).before a0 Z = true) (eT : T.heap = h) (F : Ins Z h a K0 true) (hd : decode c.code pc = .ok (.checkcast i, 3)) (hq : pc + 3 = q) (K : ∀ T', Stand p l e R s m args below meth c T' locs cells slots → T'.heap = h → own_Go p e below s kc ks Q (T'.setTop (mkF m q Ls (.ref a :: st)))) : own_Go p e below s kc ks Q (T.setTop (mkF m pc Ls (.ref a :: st))) := by
  subst hq
  obtain ⟨T', X', e', st'⟩ := castY X hx hZ hown w eT F (g := mkF m pc Ls (.ref a :: st)) rfl rfl hd
  exact own_via (fun t => st' t) (K T' X' e')
theorem own_inst0 (X : Stand p l e R s m args below meth c T locs cells slots) (hx : p.tables.exec = Jvm.exec) {i : Nat} (hd : decode c.code pc = .ok (.instanceof i, 3)) (hq : pc + 3 = q) (K : own_Go p e below s kc ks Q (T.setTop (mkF m q Ls (.int 0 :: st)))) : own_Go p e below s kc ks Q (T.setTop (mkF m pc Ls (.null :: st))) := by
  subst hq; exact own_via (fun t => X.instanceofNull hx (g := mkF m pc Ls (.null :: st)) rfl (rest := st) rfl hd t) K
theorem own_staKeep {Z : State} {h h' : Heap} {ws : List Addr} {C n d : String} {v : Value} (F : Sta Z h C n d v) (K : Keep h h' ws) (q : ∀ a ∈ ws, ∀ c : Cell, h[a]? = some c → c.vm.isStatics = false) : Sta Z h' C n d v := by
  obtain ⟨cf, i, k, f, st, cell, h1, h2, h3, h4, h5, h6, h7⟩ := F
  exact ⟨cf, i, k, f, st, cell, h1, h2, h3, h4, K.2.1 st cell h5 (fun hm => by rw [q st hm cell h5] at h6; cases h6), h6, h7⟩
theorem own_exaPlain {Z : State} {h : Heap} {a : Addr} {C : String} (E : Exa Z h a C) : ∀ c : Cell, h[a]? = some c → c.vm.isStatics = false := fun c hc => by
  obtain ⟨cell, k, h1, -, -, h4, -⟩ := E
  cases h1.symm.trans hc; exact h4
theorem own_A.plain {Z : State} {h : Heap} {a : Addr} {ty : FieldType} {vs : List Value} (F : own_A Z h a ty vs) : ∀ c : Cell, h[a]? = some c → c.vm.isStatics = false := fun c hc => by
  obtain ⟨cl, A, -⟩ := F
  cases A.1.symm.trans hc; exact A.plain
theorem own_callSP (X : Stand p l e R s m args below meth c T locs cells slots) (hx : p.tables.exec = Jvm.exec) {Z : State} {a0 : Array Value} {h : Heap} {own : String} {index : Nat} {y : MethodName} {bytes : ByteArray} {maxL : Nat} {ret : Option FieldType} {W : Nat} {argsL : List Value} {fr lo : Nat} {w : Value} {ps : List FieldType} {r : Option FieldType} {st0 : List Value} (hZ : Z.Warmed39 s.vm) (hown : s.vm.findClass own = some m.cls) (w1 : (Cond.methodLink own index y).before a0 Z = true) (w2 : (Cond.static y).before a0 Z = true) (w3 : (Cond.initialized y.cls).before a0 Z = true) (w4 : (Cond.code y bytes maxL ret).before a0 Z = true) (hy : y.cls ≠ "java/lang/invoke/MethodHandle" ∧ y.cls ≠ "java/lang/invoke/VarHandle") (hM : MetFree l y (head1 [Cond.code y bytes maxL ret] ({ frames := fr, cells := 0, slots := 0, locals := lo } : Room)) (fun aa U => aa = argsL.toArray ∧ Z.Warmed39 U.vm ∧ U.heap = h) (fun _ _ _ _ _ => True) (fun _ U o U' => ∃ v L, o = .returned v ∧ own_P w h v U'.heap L ∧ FrameEnd U o U' L 0 0)) (hpd : parseMethodDescriptor y.desc = some ⟨ps, r⟩) (hlen : argsL.length = ps.length) (eT : T.heap = h) (hml : Ls.size = c.maxLocals) (hst : st0 = argsL.reverse ++ st) (hW : (st.map fun v => v.category).sum ≤ W) (hf : fr + 1 ≤ R.frames) (hl : W + (maxL + 11) + lo ≤ R.locals) (hc : cells ≤ R.cells) (hs : slots ≤ R.slots) (hd : decode c.code pc = .ok (.invokestatic index, 3)) (hq : pc + 3 = q) (K : ∀ T', Stand p l e R s m args below meth c T' locs cells slots → T'.heap = h → own_Go p e below s kc ks Q (T'.setTop (mkF m q Ls (w :: st)))) : own_Go p e below s kc ks Q (T.setTop (mkF m pc Ls st0)) := by
  refine own_callS X hx hZ hown w1 w2 w3 w4 hy hM hpd hlen eT hml hst hW hf hl hc hs hd hq fun v T' L X' hQ => ?_
  obtain ⟨rfl, eh, rfl⟩ := hQ
  rw [List.append_nil] at X'
  exact K T' X' eh
theorem own_callVP (X : Stand p l e R s m args below meth c T locs cells slots) (hx : p.tables.exec = Jvm.exec) {a : Addr} {C : String} {z : MethodName} {Z : State} {a0 : Array Value} {h : Heap} {own : String} {index : Nat} {y : MethodName} {bytes : ByteArray} {maxL : Nat} {ret : Option FieldType} {W : Nat} {argsL : List Value} {fr lo : Nat} {w : Value} {ps : List FieldType} {r : Option FieldType} {st0 : List Value} (hZ : Z.Warmed39 s.vm) (hown : s.vm.findClass own = some m.cls) (w1 : (Cond.methodLink own index y).before a0 Z = true) (w2 : (Cond.declares y).before a0 Z = true) (w5 : (Cond.selects y.cls y y).before a0 Z = true) (w6 : (Cond.selects C y z).before a0 Z = true) (w7 : (Cond.instanceMethod z).before a0 Z = true) (w3 : (Cond.initialized z.cls).before a0 Z = true) (w4 : (Cond.code z bytes maxL ret).before a0 Z = true) (E : Exa Z h a C) (hy : y.cls ≠ "java/lang/invoke/MethodHandle" ∧ y.cls ≠ "java/lang/invoke/VarHandle") (hM : MetFree l z (head1 [Cond.code z bytes maxL ret] ({ frames := fr, cells := 0, slots := 0, locals := lo } : Room)) (fun aa U => aa = (.ref a :: argsL).toArray ∧ Z.Warmed39 U.vm ∧ U.heap = h) (fun _ _ _ _ _ => True) (fun _ U o U' => ∃ v L, o = .returned v ∧ own_P w h v U'.heap L ∧ FrameEnd U o U' L 0 0)) (hpd : parseMethodDescriptor y.desc = some ⟨ps, r⟩) (hlen : argsL.length = ps.length) (eT : T.heap = h) (hml : Ls.size = c.maxLocals) (hst : st0 = argsL.reverse ++ .ref a :: st) (hW : (st.map fun v => v.category).sum ≤ W) (hf : fr + 1 ≤ R.frames) (hl : W + (maxL + 11) + lo ≤ R.locals) (hc : cells ≤ R.cells) (hs : slots ≤ R.slots) (hd : decode c.code pc = .ok (.invokevirtual index, 3)) (hq : pc + 3 = q) (K : ∀ T', Stand p l e R s m args below meth c T' locs cells slots → T'.heap = h → own_Go p e below s kc ks Q (T'.setTop (mkF m q Ls (w :: st)))) : own_Go p e below s kc ks Q (T.setTop (mkF m pc Ls st0)) := by
  refine own_callV X hx hZ hown w1 w2 w5 w6 w7 w3 w4 E hy hM hpd hlen eT hml hst hW hf hl hc hs hd hq fun v T' L X' hQ => ?_
  obtain ⟨rfl, eh, rfl⟩ := hQ
  rw [List.append_nil] at X'
  exact K T' X' eh
theorem own_callCV (X : Stand p l e R s m args below meth c T locs cells slots) (hx : p.tables.exec = Jvm.exec) {a : Addr} {Z : State} {a0 : Array Value} {h : Heap} {own : String} {index : Nat} {y : MethodName} {bytes : ByteArray} {maxL : Nat} {W : Nat} {argsL : List Value} {fr lo : Nat} {ps : List FieldType} {r : Option FieldType} {st0 : List Value} (hZ : Z.Warmed39 s.vm) (hown : s.vm.findClass own = some m.cls) (hy1 : y.name = "<init>") (w1 : (Cond.methodLink own index y).before a0 Z = true) (w2 : (Cond.instanceMethod y).before a0 Z = true) (w3 : (Cond.initialized y.cls).before a0 Z = true) (w4 : (Cond.code y bytes maxL none).before a0 Z = true) (hy : y.cls ≠ "java/lang/invoke/MethodHandle" ∧ y.cls ≠ "java/lang/invoke/VarHandle") (hM : MetFree l y (head1 [Cond.code y bytes maxL none] ({ frames := fr, cells := 0, slots := 0, locals := lo } : Room)) (fun aa U => aa = (.ref a :: argsL).toArray ∧ Z.Warmed39 U.vm ∧ U.heap = h) (fun _ _ _ _ _ => True) (fun _ U o U' => ∃ v L, o = .returned v ∧ own_V h v U'.heap L ∧ FrameEnd U o U' L 0 0)) (hpd : parseMethodDescriptor y.desc = some ⟨ps, r⟩) (hlen : argsL.length = ps.length) (eT : T.heap = h) (hml : Ls.size = c.maxLocals) (hst : st0 = argsL.reverse ++ .ref a :: st) (hW : (st.map fun v => v.category).sum ≤ W) (hf : fr + 1 ≤ R.frames) (hl : W + (maxL + 11) + lo ≤ R.locals) (hc : cells ≤ R.cells) (hs : slots ≤ R.slots) (hd : decode c.code pc = .ok (.invokespecial index, 3)) (hq : pc + 3 = q) (K : ∀ T', Stand p l e R s m args below meth c T' locs cells slots → T'.heap = h → own_Go p e below s kc ks Q (T'.setTop (mkF m q Ls st))) : own_Go p e below s kc ks Q (T.setTop (mkF m pc Ls st0)) := by
  refine own_callC X hx hZ hown hy1 w1 w2 w3 w4 hy hM hpd hlen eT hml hst hW hf hl hc hs hd hq fun v T' L X' hQ => ?_
  obtain ⟨rfl, eh, rfl⟩ := hQ
  rw [List.append_nil] at X'
  exact K T' X' eh
theorem own_callSV (X : Stand p l e R s m args below meth c T locs cells slots) (hx : p.tables.exec = Jvm.exec) {Z : State} {a0 : Array Value} {h : Heap} {own : String} {index : Nat} {y : MethodName} {bytes : ByteArray} {maxL : Nat} {ret : Option FieldType} {W : Nat} {argsL : List Value} {fr lo : Nat} {ps : List FieldType} {r : Option FieldType} {st0 : List Value} (hZ : Z.Warmed39 s.vm) (hown : s.vm.findClass own = some m.cls) (w1 : (Cond.methodLink own index y).before a0 Z = true) (w2 : (Cond.static y).before a0 Z = true) (w3 : (Cond.initialized y.cls).before a0 Z = true) (w4 : (Cond.code y bytes maxL ret).before a0 Z = true) (hy : y.cls ≠ "java/lang/invoke/MethodHandle" ∧ y.cls ≠ "java/lang/invoke/VarHandle") (hM : MetFree l y (head1 [Cond.code y bytes maxL ret] ({ frames := fr, cells := 0, slots := 0, locals := lo } : Room)) (fun aa U => aa = argsL.toArray ∧ Z.Warmed39 U.vm ∧ U.heap = h) (fun _ _ _ _ _ => True) (fun _ U o U' => ∃ v L, o = .returned v ∧ own_V h v U'.heap L ∧ FrameEnd U o U' L 0 0)) (hpd : parseMethodDescriptor y.desc = some ⟨ps, r⟩) (hlen : argsL.length = ps.length) (eT : T.heap = h) (hml : Ls.size = c.maxLocals) (hst : st0 = argsL.reverse ++ st) (hW : (st.map fun v => v.category).sum ≤ W) (hf : fr + 1 ≤ R.frames) (hl : W + (maxL + 11) + lo ≤ R.locals) (hc : cells ≤ R.cells) (hs : slots ≤ R.slots) (hd : decode c.code pc = .ok (.invokestatic index, 3)) (hq : pc + 3 = q) (K : ∀ T', Stand p l e R s m args below meth c T' locs cells slots → T'.heap = h → own_Go p e below s kc ks Q (T'.setTop (mkF m q Ls st))) : own_Go p e below s kc ks Q (T.setTop (mkF m pc Ls st0)) := by
  refine own_callS X hx hZ hown w1 w2 w3 w4 hy hM hpd hlen eT hml hst hW hf hl hc hs hd hq fun v T' L X' hQ => ?_
  obtain ⟨rfl, eh, rfl⟩ := hQ
  rw [List.append_nil] at X'
  exact K T' X' eh
theorem own_callVV (X : Stand p l e R s m args below meth c T locs cells slots) (hx : p.tables.exec = Jvm.exec) {a : Addr} {C : String} {z : MethodName} {Z : State} {a0 : Array Value} {h : Heap} {own : String} {index : Nat} {y : MethodName} {bytes : ByteArray} {maxL : Nat} {ret : Option FieldType} {W : Nat} {argsL : List Value} {fr lo : Nat} {ps : List FieldType} {r : Option FieldType} {st0 : List Value} (hZ : Z.Warmed39 s.vm) (hown : s.vm.findClass own = some m.cls) (w1 : (Cond.methodLink own index y).before a0 Z = true) (w2 : (Cond.declares y).before a0 Z = true) (w5 : (Cond.selects y.cls y y).before a0 Z = true) (w6 : (Cond.selects C y z).before a0 Z = true) (w7 : (Cond.instanceMethod z).before a0 Z = true) (w3 : (Cond.initialized z.cls).before a0 Z = true) (w4 : (Cond.code z bytes maxL ret).before a0 Z = true) (E : Exa Z h a C) (hy : y.cls ≠ "java/lang/invoke/MethodHandle" ∧ y.cls ≠ "java/lang/invoke/VarHandle") (hM : MetFree l z (head1 [Cond.code z bytes maxL ret] ({ frames := fr, cells := 0, slots := 0, locals := lo } : Room)) (fun aa U => aa = (.ref a :: argsL).toArray ∧ Z.Warmed39 U.vm ∧ U.heap = h) (fun _ _ _ _ _ => True) (fun _ U o U' => ∃ v L, o = .returned v ∧ own_V h v U'.heap L ∧ FrameEnd U o U' L 0 0)) (hpd : parseMethodDescriptor y.desc = some ⟨ps, r⟩) (hlen : argsL.length = ps.length) (eT : T.heap = h) (hml : Ls.size = c.maxLocals) (hst : st0 = argsL.reverse ++ .ref a :: st) (hW : (st.map fun v => v.category).sum ≤ W) (hf : fr + 1 ≤ R.frames) (hl : W + (maxL + 11) + lo ≤ R.locals) (hc : cells ≤ R.cells) (hs : slots ≤ R.slots) (hd : decode c.code pc = .ok (.invokevirtual index, 3)) (hq : pc + 3 = q) (K : ∀ T', Stand p l e R s m args below meth c T' locs cells slots → T'.heap = h → own_Go p e below s kc ks Q (T'.setTop (mkF m q Ls st))) : own_Go p e below s kc ks Q (T.setTop (mkF m pc Ls st0)) := by
  refine own_callV X hx hZ hown w1 w2 w5 w6 w7 w3 w4 E hy hM hpd hlen eT hml hst hW hf hl hc hs hd hq fun v T' L X' hQ => ?_
  obtain ⟨rfl, eh, rfl⟩ := hQ
  rw [List.append_nil] at X'
  exact K T' X' eh
end OwnKit
theorem own_pn0 : plainName "com/example/ferrule/ferrule/JsonBudget" = true := by first | (simp [plainName, overriddenIn]; done) | decide +kernel
theorem own_ef1 (m : MethodId) (a1 : Addr) : entryFrame m #[.ref a1] 1 = mkF m 0 #[.val (.ref a1)] [] := by first | (simp [entryFrame, mkF, argsToLocals, Value.category]; done) | rfl
theorem own_d1_0 : decode prog_4_method_1_code 0 = .ok (.aload_n 0, 1) := by decide +kernel
theorem own_d1_1 : decode prog_4_method_1_code 1 = .ok (.invokespecial 1, 3) := by decide +kernel
theorem own_d1_4 : decode prog_4_method_1_code 4 = .ok (.return_, 1) := by decide +kernel
set_option maxRecDepth 65536 in
set_option maxHeartbeats 40000000 in
theorem rm1 (l : Launch) (Z : State) (a0 : Array Value) (hw : ∀ d ∈ tables_1, d.before a0 Z = true) (ws : List Jvm.Cond) (a1 : Addr) (h0 : Heap) :
    MetFree l (⟨"com/example/ferrule/ferrule/JsonBudget", "<init>", "()V"⟩ : MethodName) (head1 (Jvm.Cond.code (⟨"com/example/ferrule/ferrule/JsonBudget", "<init>", "()V"⟩ : MethodName) prog_4_method_1_code 1 none :: ws) ({ frames := 1, cells := 0, slots := 0, locals := 12 } : Room)) (fun a U => a = #[.ref a1] ∧ Z.Warmed39 U.vm ∧ U.heap = h0) (fun _ _ _ _ _ => True) (fun _ U o U' => ∃ v L, o = .returned v ∧ own_V h0 v U'.heap L ∧ FrameEnd U o U' L ({ frames := 1, cells := 0, slots := 0, locals := 12 } : Room).cells ({ frames := 1, cells := 0, slots := 0, locals := 12 } : Room).slots) := by
  refine MetFree.of_bodySF (plainFor_of_name own_pn0) hisR ?_
  intro p e s m args below meth c s₁ Bd hml0 hP hK
  obtain ⟨rfl, hZ, hh⟩ := hP
  have hx := Bd.exec
  have hby := Bd.bytes
  have hml : c.maxLocals = 1 := hml0
  have hown : s.vm.findClass "com/example/ferrule/ferrule/JsonBudget" = some m.cls := findClass_of_methodNamed Bd.named
  have hnm := (name_of_methodNamed Bd.named Bd.method).1
  have hlk : meth.locks = false := BodyLoose.notSynchronized Bd
  have X0 : Stand p l e ({ frames := 1, cells := 0, slots := 0, locals := 12 } : Room) s m #[.ref a1] below meth c s₁ [] 0 0 := Stand.of_body Bd
  have e0 : s₁.heap = h0 := by rw [← hh, Bd.state]; rfl
  show own_Go p e below s 0 0 (own_V h0) (s₁.setTop (entryFrame m #[.ref a1] 1))
  rw [own_ef1]
  refine own_aloadN X0 hx (hb hby own_d1_0) (q := 1) rfl rfl rfl ?_
  refine own_initO X0 hx hZ hown (hw _ (List.mem_of_getElem? (i := 6) rfl)) (hw _ (List.mem_of_getElem? (i := 7) rfl)) (hw _ (List.mem_of_getElem? (i := 8) rfl)) e0 (by rw [hml]; rfl) (by decide) (W := 0) (Nat.le_of_eq rfl) (by decide) (hb hby own_d1_1) (q := 4) rfl (fun T1 X2 e3 => ?_)
  refine own_retV X2 hx hlk (rest := []) Bd.returns (hb hby own_d1_4) ?_ (by decide) (by decide)
  exact ⟨rfl, e3, rfl⟩
theorem own_ef3 (m : MethodId) (a1 : Addr) (p2 : Int32) : entryFrame m #[.ref a1, .int p2] 2 = mkF m 0 #[.val (.ref a1), .val (.int p2)] [] := by first | (simp [entryFrame, mkF, argsToLocals, Value.category]; done) | rfl
theorem own_d3_0 : decode prog_4_method_3_code 0 = .ok (.aload_n 0, 1) := by decide +kernel
theorem own_d3_1 : decode prog_4_method_3_code 1 = .ok (.dup, 1) := by decide +kernel
theorem own_d3_2 : decode prog_4_method_3_code 2 = .ok (.getfield 10, 3) := by decide +kernel
theorem own_d3_5 : decode prog_4_method_3_code 5 = .ok (.iload_n 1, 1) := by decide +kernel
theorem own_d3_6 : decode prog_4_method_3_code 6 = .ok (.iadd, 1) := by decide +kernel
theorem own_d3_7 : decode prog_4_method_3_code 7 = .ok (.putfield 10, 3) := by decide +kernel
theorem own_d3_10 : decode prog_4_method_3_code 10 = .ok (.return_, 1) := by decide +kernel
def own_Q3 (Z : State) (a1 : Addr) (p2 : Int32) (f1 : Int32) (f2 : Int32) (h0 : Heap) (n0 : Nat) (v : Option Value) (h : Heap) (L : List Loc) : Prop := v = none ∧ Fr n0 L ∧ Keep h0 h [a1] ∧ Exa Z h a1 "com/example/ferrule/ferrule/JsonBudget" ∧ Fld Z h a1 "com/example/ferrule/ferrule/JsonBudget" "bytes" "I" (.int (f1 + p2)) ∧ Fld Z h a1 "com/example/ferrule/ferrule/JsonBudget" "values" "I" (.int f2)
set_option maxRecDepth 65536 in
set_option maxHeartbeats 40000000 in
theorem rm3 (l : Launch) (Z : State) (a0 : Array Value) (hw : ∀ d ∈ tables_1, d.before a0 Z = true) (ws : List Jvm.Cond) (a1 : Addr) (p2 : Int32) (f1 : Int32) (f2 : Int32) (h0 : Heap) (n0 : Nat) (E0p : Exa Z h0 a1 "com/example/ferrule/ferrule/JsonBudget") (F1p : Fld Z h0 a1 "com/example/ferrule/ferrule/JsonBudget" "bytes" "I" (.int f1)) (F2p : Fld Z h0 a1 "com/example/ferrule/ferrule/JsonBudget" "values" "I" (.int f2)) (G_a1 : n0 ≤ a1) :
    MetFree l (⟨"com/example/ferrule/ferrule/JsonBudget", "spendBytes", "(I)V"⟩ : MethodName) (head1 (Jvm.Cond.code (⟨"com/example/ferrule/ferrule/JsonBudget", "spendBytes", "(I)V"⟩ : MethodName) prog_4_method_3_code 2 none :: ws) ({ frames := 0, cells := 0, slots := 0, locals := 0 } : Room)) (fun a U => a = #[.ref a1, .int p2] ∧ Z.Warmed39 U.vm ∧ U.heap = h0) (fun _ _ _ _ _ => True) (fun _ U o U' => ∃ v L, o = .returned v ∧ own_Q3 Z a1 p2 f1 f2 h0 n0 v U'.heap L ∧ FrameEnd U o U' L ({ frames := 0, cells := 0, slots := 0, locals := 0 } : Room).cells ({ frames := 0, cells := 0, slots := 0, locals := 0 } : Room).slots) := by
  refine MetFree.of_bodySF (plainFor_of_name own_pn0) hisR ?_
  intro p e s m args below meth c s₁ Bd hml0 hP hK
  obtain ⟨rfl, hZ, hh⟩ := hP
  have hx := Bd.exec
  have hby := Bd.bytes
  have hml : c.maxLocals = 2 := hml0
  have hown : s.vm.findClass "com/example/ferrule/ferrule/JsonBudget" = some m.cls := findClass_of_methodNamed Bd.named
  have hnm := (name_of_methodNamed Bd.named Bd.method).1
  have hlk : meth.locks = false := BodyLoose.notSynchronized Bd
  have X0 : Stand p l e ({ frames := 0, cells := 0, slots := 0, locals := 0 } : Room) s m #[.ref a1, .int p2] below meth c s₁ [] 0 0 := Stand.of_body Bd
  have e0 : s₁.heap = h0 := by rw [← hh, Bd.state]; rfl
  have N0 := Fr.nil n0
  have K0 := Keep.refl h0 [a1]
  show own_Go p e below s 0 0 (own_Q3 Z a1 p2 f1 f2 h0 n0) (s₁.setTop (entryFrame m #[.ref a1, .int p2] 2))
  rw [own_ef3]
  refine own_aloadN X0 hx (hb hby own_d3_0) (q := 1) rfl rfl rfl ?_
  refine own_dup X0 hx (hb hby own_d3_1) (q := 2) rfl rfl ?_
  refine own_getF X0 hx hZ hown (host := "") (Or.inl (hw _ (List.mem_of_getElem? (i := 16) rfl))) Via.refl e0 F1p (hb hby own_d3_2) (q := 5) rfl (fun T4 X5 e6 => ?_)
  refine own_iloadN X5 hx (hb hby own_d3_5) (q := 6) rfl rfl ?_
  refine own_iadd X5 hx (hb hby own_d3_6) (q := 7) rfl ?_
  refine own_putF X5 hx hZ hown (host := "") (Or.inl (hw _ (List.mem_of_getElem? (i := 16) rfl))) Via.refl e6 F1p E0p (Or.inl (hw _ (List.mem_of_getElem? (i := 17) rfl))) (hw _ (List.mem_of_getElem? (i := 1) rfl)) (ty := .int) (by decide) rfl rfl (hb hby own_d3_7) (q := 10) rfl (fun T7 h10 X8 e9 W11 => ?_)
  have E12 := Exa.wr W11 E0p
  have F13 := Fld.same W11 F1p
  have F14 := Fld.other W11 F2p (Or.inr (slot_ne (C := "com/example/ferrule/ferrule/JsonBudget") (Or.inl (hw _ (List.mem_of_getElem? (i := 31) rfl))) (Or.inl (hw _ (List.mem_of_getElem? (i := 17) rfl))) (by decide) (t := .int) (t' := .int) (by decide) (by decide)))
  have K15 := K0.wr W11 (Or.inl (List.mem_of_getElem? (i := 0) rfl))
  have N16 := Fr.snoc X8 N0 G_a1
  refine own_retV X8 hx hlk (rest := []) Bd.returns (hb hby own_d3_10) ?_ (by decide) (by decide)
  show own_Q3 Z a1 p2 f1 f2 h0 n0 _ T7.heap _
  rw [e9]
  exact ⟨rfl, N16, K15, E12, F13, F14⟩
theorem own_ef5 (m : MethodId) (a1 : Addr) : entryFrame m #[.ref a1] 1 = mkF m 0 #[.val (.ref a1)] [] := by first | (simp [entryFrame, mkF, argsToLocals, Value.category]; done) | rfl
theorem own_d5_0 : decode prog_4_method_4_code 0 = .ok (.aload_n 0, 1) := by decide +kernel
theorem own_d5_1 : decode prog_4_method_4_code 1 = .ok (.dup, 1) := by decide +kernel
theorem own_d5_2 : decode prog_4_method_4_code 2 = .ok (.getfield 14, 3) := by decide +kernel
theorem own_d5_5 : decode prog_4_method_4_code 5 = .ok (.iconst 1, 1) := by decide +kernel
theorem own_d5_6 : decode prog_4_method_4_code 6 = .ok (.iadd, 1) := by decide +kernel
theorem own_d5_7 : decode prog_4_method_4_code 7 = .ok (.putfield 14, 3) := by decide +kernel
theorem own_d5_10 : decode prog_4_method_4_code 10 = .ok (.aload_n 0, 1) := by decide +kernel
theorem own_d5_11 : decode prog_4_method_4_code 11 = .ok (.getfield 14, 3) := by decide +kernel
theorem own_d5_14 : decode prog_4_method_4_code 14 = .ok (.ldc 17, 2) := by decide +kernel
theorem own_d5_16 : decode prog_4_method_4_code 16 = .ok (.if_icmp .gt 7, 3) := by decide +kernel
theorem own_d5_19 : decode prog_4_method_4_code 19 = .ok (.iconst 1, 1) := by decide +kernel
theorem own_d5_20 : decode prog_4_method_4_code 20 = .ok (.goto 4, 3) := by decide +kernel
theorem own_d5_23 : decode prog_4_method_4_code 23 = .ok (.iconst 0, 1) := by decide +kernel
theorem own_d5_24 : decode prog_4_method_4_code 24 = .ok (.ireturn, 1) := by decide +kernel
def own_f5 (a1 : Addr) (f1 : Int32) (f2 : Int32) : Int32 := (if (500000 : Int32) < (f2 + (1 : Int32)) then (0 : Int32) else (1 : Int32))
def own_Q5 (Z : State) (a1 : Addr) (f1 : Int32) (f2 : Int32) (h0 : Heap) (n0 : Nat) (v : Option Value) (h : Heap) (L : List Loc) : Prop := v = some (.int (own_f5 a1 f1 f2)) ∧ Fr n0 L ∧ Keep h0 h [a1] ∧ Exa Z h a1 "com/example/ferrule/ferrule/JsonBudget" ∧ Fld Z h a1 "com/example/ferrule/ferrule/JsonBudget" "bytes" "I" (.int f1) ∧ Fld Z h a1 "com/example/ferrule/ferrule/JsonBudget" "values" "I" (.int (f2 + (1 : Int32)))
set_option maxRecDepth 65536 in
set_option maxHeartbeats 40000000 in
theorem rm5 (l : Launch) (Z : State) (a0 : Array Value) (hw : ∀ d ∈ tables_1, d.before a0 Z = true) (ws : List Jvm.Cond) (a1 : Addr) (f1 : Int32) (f2 : Int32) (h0 : Heap) (n0 : Nat) (E0p : Exa Z h0 a1 "com/example/ferrule/ferrule/JsonBudget") (F1p : Fld Z h0 a1 "com/example/ferrule/ferrule/JsonBudget" "bytes" "I" (.int f1)) (F2p : Fld Z h0 a1 "com/example/ferrule/ferrule/JsonBudget" "values" "I" (.int f2)) (G_a1 : n0 ≤ a1) :
    MetFree l (⟨"com/example/ferrule/ferrule/JsonBudget", "spendValue", "()Z"⟩ : MethodName) (head1 (Jvm.Cond.code (⟨"com/example/ferrule/ferrule/JsonBudget", "spendValue", "()Z"⟩ : MethodName) prog_4_method_4_code 1 (some .boolean) :: ws) ({ frames := 0, cells := 0, slots := 0, locals := 0 } : Room)) (fun a U => a = #[.ref a1] ∧ Z.Warmed39 U.vm ∧ U.heap = h0) (fun _ _ _ _ _ => True) (fun _ U o U' => ∃ v L, o = .returned v ∧ own_Q5 Z a1 f1 f2 h0 n0 v U'.heap L ∧ FrameEnd U o U' L ({ frames := 0, cells := 0, slots := 0, locals := 0 } : Room).cells ({ frames := 0, cells := 0, slots := 0, locals := 0 } : Room).slots) := by
  refine MetFree.of_bodySF (plainFor_of_name own_pn0) hisR ?_
  intro p e s m args below meth c s₁ Bd hml0 hP hK
  obtain ⟨rfl, hZ, hh⟩ := hP
  have hx := Bd.exec
  have hby := Bd.bytes
  have hml : c.maxLocals = 1 := hml0
  have hown : s.vm.findClass "com/example/ferrule/ferrule/JsonBudget" = some m.cls := findClass_of_methodNamed Bd.named
  have hnm := (name_of_methodNamed Bd.named Bd.method).1
  have hlk : meth.locks = false := BodyLoose.notSynchronized Bd
  have X0 : Stand p l e ({ frames := 0, cells := 0, slots := 0, locals := 0 } : Room) s m #[.ref a1] below meth c s₁ [] 0 0 := Stand.of_body Bd
  have e0 : s₁.heap = h0 := by rw [← hh, Bd.state]; rfl
  have N0 := Fr.nil n0
  have K0 := Keep.refl h0 [a1]
  show own_Go p e below s 0 0 (own_Q5 Z a1 f1 f2 h0 n0) (s₁.setTop (entryFrame m #[.ref a1] 1))
  rw [own_ef5]
  refine own_aloadN X0 hx (hb hby own_d5_0) (q := 1) rfl rfl rfl ?_
  refine own_dup X0 hx (hb hby own_d5_1) (q := 2) rfl rfl ?_
  refine own_getF X0 hx hZ hown (host := "") (Or.inl (hw _ (List.mem_of_getElem? (i := 30) rfl))) Via.refl e0 F2p (hb hby own_d5_2) (q := 5) rfl (fun T17 X18 e19 => ?_)
  refine own_iconst X18 hx (v := (1 : Int32)) (hb hby own_d5_5) (q := 6) rfl rfl ?_
  refine own_iadd X18 hx (hb hby own_d5_6) (q := 7) rfl ?_
  refine own_putF X18 hx hZ hown (host := "") (Or.inl (hw _ (List.mem_of_getElem? (i := 30) rfl))) Via.refl e19 F2p E0p (Or.inl (hw _ (List.mem_of_getElem? (i := 31) rfl))) (hw _ (List.mem_of_getElem? (i := 1) rfl)) (ty := .int) (by decide) rfl rfl (hb hby own_d5_7) (q := 10) rfl (fun T20 h23 X21 e22 W24 => ?_)
  have E25 := Exa.wr W24 E0p
  have F26 := Fld.other W24 F1p (Or.inr (slot_ne (C := "com/example/ferrule/ferrule/JsonBudget") (Or.inl (hw _ (List.mem_of_getElem? (i := 17) rfl))) (Or.inl (hw _ (List.mem_of_getElem? (i := 31) rfl))) (by decide) (t := .int) (t' := .int) (by decide) (by decide)))
  have F27 := Fld.same W24 F2p
  have K28 := K0.wr W24 (Or.inl (List.mem_of_getElem? (i := 0) rfl))
  have N29 := Fr.snoc X21 N0 G_a1
  refine own_aloadN X21 hx (hb hby own_d5_10) (q := 11) rfl rfl rfl ?_
  refine own_getF X21 hx hZ hown (host := "") (Or.inl (hw _ (List.mem_of_getElem? (i := 30) rfl))) Via.refl e22 F27 (hb hby own_d5_11) (q := 14) rfl (fun T30 X31 e32 => ?_)
  refine own_ldc X31 hx hZ hown (hw _ (List.mem_of_getElem? (i := 32) rfl)) (hb hby own_d5_14) (q := 16) rfl ?_
  refine own_icmpP X31 hx (hb hby own_d5_16) (cd := .gt) (x := f2 + (1 : Int32)) (y := (500000 : Int32)) (pt := 23) (q := 19) (by decide) (by decide) rfl rfl (fun (c1 : (500000 : Int32) < (f2 + (1 : Int32))) => ?_) (fun (c1 : ¬ ((500000 : Int32) < (f2 + (1 : Int32)))) => ?_)
  · refine own_iconst X31 hx (v := (0 : Int32)) (hb hby own_d5_23) (q := 24) rfl rfl ?_
    refine own_retN X31 hx hlk (t := .boolean) (by simp) Bd.returns (hb hby own_d5_24) ?_ (by decide) (by decide)
    have r : own_f5 a1 f1 f2 = (0 : Int32) := by rw [own_f5, if_pos c1]
    show own_Q5 Z a1 f1 f2 h0 n0 _ T30.heap _
    rw [e32]
    exact ⟨(by rw [r] <;> rfl), N29, K28, E25, F26, F27⟩
  · refine own_iconst X31 hx (v := (1 : Int32)) (hb hby own_d5_19) (q := 20) rfl rfl ?_
    refine own_goto X31 hx (hb hby own_d5_20) (q := 24) (by decide) (by decide) ?_
    refine own_retN X31 hx hlk (t := .boolean) (by simp) Bd.returns (hb hby own_d5_24) ?_ (by decide) (by decide)
    have r : own_f5 a1 f1 f2 = (1 : Int32) := by rw [own_f5, if_neg c1]
    show own_Q5 Z a1 f1 f2 h0 n0 _ T30.heap _
    rw [e32]
    exact ⟨(by rw [r] <;> rfl), N29, K28, E25, F26, F27⟩
theorem own_ef4 (m : MethodId) (a1 : Addr) : entryFrame m #[.ref a1] 1 = mkF m 0 #[.val (.ref a1)] [] := by first | (simp [entryFrame, mkF, argsToLocals, Value.category]; done) | rfl
theorem own_d4_0 : decode prog_4_method_2_code 0 = .ok (.ldc 9, 2) := by decide +kernel
theorem own_d4_2 : decode prog_4_method_2_code 2 = .ok (.aload_n 0, 1) := by decide +kernel
theorem own_d4_3 : decode prog_4_method_2_code 3 = .ok (.getfield 10, 3) := by decide +kernel
theorem own_d4_6 : decode prog_4_method_2_code 6 = .ok (.isub, 1) := by decide +kernel
theorem own_d4_7 : decode prog_4_method_2_code 7 = .ok (.ireturn, 1) := by decide +kernel
def own_f4 (f1 : Int32) : Int32 := (16777216 : Int32) - f1
set_option maxRecDepth 65536 in
set_option maxHeartbeats 40000000 in
theorem rm4 (l : Launch) (Z : State) (a0 : Array Value) (hw : ∀ d ∈ tables_1, d.before a0 Z = true) (ws : List Jvm.Cond) (a1 : Addr) (f1 : Int32) (h0 : Heap) (F0p : Fld Z h0 a1 "com/example/ferrule/ferrule/JsonBudget" "bytes" "I" (.int f1)) :
    MetFree l (⟨"com/example/ferrule/ferrule/JsonBudget", "bytesLeft", "()I"⟩ : MethodName) (head1 (Jvm.Cond.code (⟨"com/example/ferrule/ferrule/JsonBudget", "bytesLeft", "()I"⟩ : MethodName) prog_4_method_2_code 1 (some .int) :: ws) ({ frames := 0, cells := 0, slots := 0, locals := 0 } : Room)) (fun a U => a = #[.ref a1] ∧ Z.Warmed39 U.vm ∧ U.heap = h0) (fun _ _ _ _ _ => True) (fun _ U o U' => ∃ v L, o = .returned v ∧ own_P (.int (own_f4 f1)) h0 v U'.heap L ∧ FrameEnd U o U' L ({ frames := 0, cells := 0, slots := 0, locals := 0 } : Room).cells ({ frames := 0, cells := 0, slots := 0, locals := 0 } : Room).slots) := by
  refine MetFree.of_bodySF (plainFor_of_name own_pn0) hisR ?_
  intro p e s m args below meth c s₁ Bd hml0 hP hK
  obtain ⟨rfl, hZ, hh⟩ := hP
  have hx := Bd.exec
  have hby := Bd.bytes
  have hml : c.maxLocals = 1 := hml0
  have hown : s.vm.findClass "com/example/ferrule/ferrule/JsonBudget" = some m.cls := findClass_of_methodNamed Bd.named
  have hnm := (name_of_methodNamed Bd.named Bd.method).1
  have hlk : meth.locks = false := BodyLoose.notSynchronized Bd
  have X0 : Stand p l e ({ frames := 0, cells := 0, slots := 0, locals := 0 } : Room) s m #[.ref a1] below meth c s₁ [] 0 0 := Stand.of_body Bd
  have e0 : s₁.heap = h0 := by rw [← hh, Bd.state]; rfl
  show own_Go p e below s 0 0 (own_P (.int (own_f4 f1)) h0) (s₁.setTop (entryFrame m #[.ref a1] 1))
  rw [own_ef4]
  refine own_ldc X0 hx hZ hown (hw _ (List.mem_of_getElem? (i := 23) rfl)) (hb hby own_d4_0) (q := 2) rfl ?_
  refine own_aloadN X0 hx (hb hby own_d4_2) (q := 3) rfl rfl rfl ?_
  refine own_getF X0 hx hZ hown (host := "") (Or.inl (hw _ (List.mem_of_getElem? (i := 16) rfl))) Via.refl e0 F0p (hb hby own_d4_3) (q := 6) rfl (fun T33 X34 e35 => ?_)
  refine own_isub X34 hx (hb hby own_d4_6) (q := 7) rfl ?_
  refine own_retI X34 hx hlk Bd.returns (hb hby own_d4_7) ?_ (by decide) (by decide)
  have r : own_f4 f1 = (16777216 : Int32) - f1 := by rw [own_f4]
  exact ⟨by rw [r] <;> rfl, e35, rfl⟩
theorem own_k8 (x : Int32) : (x &&& 7) = 0 ∨ (x &&& 7) = 1 ∨ (x &&& 7) = 2 ∨ (x &&& 7) = 3 ∨ (x &&& 7) = 4 ∨ (x &&& 7) = 5 ∨ (x &&& 7) = 6 ∨ (x &&& 7) = 7 := by
  have h := c_mask x 7 3 (by decide) (by decide)
  simp only [← Int32.toInt_inj, h, Int32.reduceToInt]; omega
theorem own_left (x : Int32) : own_f4 ((0 : Int32) + x) = (16777216 : Int32) - x := by
  unfold own_f4; rw [Int32.zero_add]
theorem own_pd0 : parseMethodDescriptor "()V" = some ⟨[], none⟩ := by decide +kernel
theorem own_pd1 : parseMethodDescriptor "(I)V" = some ⟨[.int], none⟩ := by decide +kernel
theorem own_pd2 : parseMethodDescriptor "()I" = some ⟨[], some .int⟩ := by decide +kernel
theorem own_pd3 : parseMethodDescriptor "()Z" = some ⟨[], some .boolean⟩ := by decide +kernel
theorem own_pn5 : plainName "com/example/ferrule/ferrule/JsonBudgetSpendValuePinLaw" = true := by first | (simp [plainName, overriddenIn]; done) | decide +kernel
theorem own_ef0 (m : MethodId) (p1 : Int32) (p2 : Int32) : entryFrame m #[.int p1, .int p2] maxLocals = mkF m 0 #[.val (.int p1), .val (.int p2), .unset, .unset, .unset] [] := by first | (simp [entryFrame, mkF, argsToLocals, Value.category, maxLocals]; done) | rfl
def own_Q0 (n0 : Nat) (v : Option Value) (h : Heap) (L : List Loc) : Prop := v = some (.int 1) ∧ Fr n0 L
set_option maxRecDepth 65536 in
set_option maxHeartbeats 40000000 in
theorem rm0 (l : Launch) (Z : State) (a0 : Array Value) (hw : ∀ d ∈ tables_1, d.before a0 Z = true) (ws : List Jvm.Cond) (p1 : Int32) (p2 : Int32) (h0 : Heap) (n0 : Nat) (Z0 : n0 ≤ h0.size) :
    MetFree l x (head1 (Jvm.Cond.code x code maxLocals ret :: ws) room_1) (fun a U => a = #[.int p1, .int p2] ∧ Z.Warmed39 U.vm ∧ U.heap = h0) (fun _ _ _ _ _ => True) (fun _ U o U' => ∃ v L, o = .returned v ∧ own_Q0 n0 v U'.heap L ∧ FrameEnd U o U' L 16 128) := by
  refine MetFree.of_bodySF (plainFor_of_name own_pn5) hisR ?_
  intro p e s m args below meth c s₁ Bd hml0 hP hK
  obtain ⟨rfl, hZ, hh⟩ := hP
  have hx := Bd.exec
  have hby := Bd.bytes
  have hml : c.maxLocals = 5 := hml0
  have hown : s.vm.findClass "com/example/ferrule/ferrule/JsonBudgetSpendValuePinLaw" = some m.cls := findClass_of_methodNamed Bd.named
  have hnm := (name_of_methodNamed Bd.named Bd.method).1
  have hlk : meth.locks = false := BodyLoose.notSynchronized Bd
  have X0 : Stand p l e room_1 s m #[.int p1, .int p2] below meth c s₁ [] 0 0 := Stand.of_body Bd
  have e0 : s₁.heap = h0 := by rw [← hh, Bd.state]; rfl
  have N0 := Fr.nil n0
  show own_Go p e below s 16 128 (own_Q0 n0) (s₁.setTop (entryFrame m #[.int p1, .int p2] maxLocals))
  rw [own_ef0]
  refine own_new X0 hx hZ hown (hw _ (List.mem_of_getElem? (i := 0) rfl)) (hw _ (List.mem_of_getElem? (i := 1) rfl)) (hw _ (List.mem_of_getElem? (i := 2) rfl)) e0 (hb hby at_0) (by decide) (by decide) (q := 3) rfl (fun T36 h39 a40 X37 e38 g41 E42 A43 D44 => ?_)
  have Z45 : n0 ≤ a40 := by rw [g41]; exact Z0
  have Z46 : n0 ≤ h39.size := Nat.le_trans Z0 E42.1
  have F47 : Fld Z h39 a40 "com/example/ferrule/ferrule/JsonBudget" "bytes" "I" (.int (0 : Int32)) := D44 (Or.inl (hw _ (List.mem_of_getElem? (i := 17) rfl))) (ty := .int) (by decide)
  have F48 : Fld Z h39 a40 "com/example/ferrule/ferrule/JsonBudget" "values" "I" (.int (0 : Int32)) := D44 (Or.inl (hw _ (List.mem_of_getElem? (i := 31) rfl))) (ty := .int) (by decide)
  refine own_dup X37 hx (hb hby at_3) (q := 4) rfl rfl ?_
  refine own_callCV X37 hx hZ hown rfl (hw _ (List.mem_of_getElem? (i := 3) rfl)) (hw _ (List.mem_of_getElem? (i := 4) rfl)) (hw _ (List.mem_of_getElem? (i := 2) rfl)) (hw _ (List.mem_of_getElem? (i := 5) rfl)) (by decide) (rm1 l Z a0 hw [] a40 h39) own_pd0 rfl e38 (by rw [hml]; rfl) (argsL := []) (st := [.ref a40]) rfl (W := 1) (Nat.le_of_eq rfl) (by decide) (by decide) (by decide) (by decide) (hb hby at_4) (q := 7) rfl (fun T49 X50 e51 => ?_)
  refine own_astoreN (L' := #[.val (.int p1), .val (.int p2), .val (.ref a40), .unset, .unset]) X50 hx (hb hby at_7) (q := 8) rfl rfl rfl ?_
  refine own_iloadN X50 hx (hb hby at_8) (q := 9) rfl rfl ?_
  refine own_bipush X50 hx (v := (7 : Int32)) (hb hby at_9) (q := 11) rfl rfl ?_
  refine own_iand X50 hx (hb hby at_11) (q := 12) rfl ?_
  refine own_istoreN (L' := #[.val (.int p1), .val (.int p2), .val (.ref a40), .val (.int (p1 &&& (7 : Int32))), .unset]) X50 hx (hb hby at_12) (q := 13) rfl rfl ?_
  rcases own_k8 p1 with hk | hk | hk | hk | hk | hk | hk | hk
  · rw [hk]
    refine own_iloadN X50 hx (hb hby at_13) (q := 14) rfl rfl ?_
    refine own_ldc X50 hx hZ hown (hw _ (List.mem_of_getElem? (i := 9) rfl)) (hb hby at_14) (q := 16) rfl ?_
    refine own_iand X50 hx (hb hby at_16) (q := 17) rfl ?_
    refine own_ldc X50 hx hZ hown (hw _ (List.mem_of_getElem? (i := 10) rfl)) (hb hby at_17) (q := 19) rfl ?_
    refine own_irem X50 hx (hb hby at_19) (q := 20) rfl (by decide) ?_
    refine own_istore (L' := #[.val (.int p1), .val (.int p2), .val (.ref a40), .val (.int (0 : Int32)), .val (.int ((p2 &&& (2147483647 : Int32)) % (16777217 : Int32)))]) X50 hx (hb hby at_20) (q := 22) rfl rfl ?_
    refine own_aloadN X50 hx (hb hby at_22) (q := 23) rfl rfl rfl ?_
    refine own_iload X50 hx (hb hby at_23) (q := 25) rfl rfl ?_
    refine own_callV X50 hx hZ hown (hw _ (List.mem_of_getElem? (i := 11) rfl)) (hw _ (List.mem_of_getElem? (i := 12) rfl)) (hw _ (List.mem_of_getElem? (i := 14) rfl)) (hw _ (List.mem_of_getElem? (i := 14) rfl)) (hw _ (List.mem_of_getElem? (i := 13) rfl)) (hw _ (List.mem_of_getElem? (i := 2) rfl)) (hw _ (List.mem_of_getElem? (i := 15) rfl)) A43 (by decide) (rm3 l Z a0 hw [] a40 ((p2 &&& (2147483647 : Int32)) % (16777217 : Int32)) (0 : Int32) (0 : Int32) h39 n0 A43 F47 F48 Z45 ) own_pd1 rfl e51 (by rw [hml]; rfl) (argsL := [.int ((p2 &&& (2147483647 : Int32)) % (16777217 : Int32))]) (st := []) rfl (W := 0) (Nat.le_of_eq rfl) (by decide) (by decide) (by decide) (by decide) (hb hby at_25) (q := 28) rfl (fun v55 T56 L57 X58 hQ59 => ?_)
    obtain ⟨rfl, N60, K61, E63, F64, F65⟩ := hQ59
    have Z66 : n0 ≤ T56.heap.size := Nat.le_trans Z46 K61.1
    have N62 := Fr.app N0 N60
    show own_Go p e below s 16 128 (own_Q0 n0) (T56.setTop (mkF m 28 #[.val (.int p1), .val (.int p2), .val (.ref a40), .val (.int (0 : Int32)), .val (.int ((p2 &&& (2147483647 : Int32)) % (16777217 : Int32)))] []))
    refine own_iloadN X58 hx (hb hby at_28) (q := 29) rfl rfl ?_
    refine own_if0M X58 hx (hb hby at_29) (cd := .le) (x := (0 : Int32)) (pt := 41) (q := 32) (by decide) (by decide) rfl rfl (fun _ => ?_) (fun h => False.elim (((by decide) : ¬ ((0 : Int32) < (0 : Int32))) h))
    refine own_iloadN X58 hx (hb hby at_41) (q := 42) rfl rfl ?_
    refine own_iconst X58 hx (v := (1 : Int32)) (hb hby at_42) (q := 43) rfl rfl ?_
    refine own_icmpM X58 hx (hb hby at_43) (cd := .le) (x := (0 : Int32)) (y := (1 : Int32)) (pt := 55) (q := 46) (by decide) (by decide) rfl rfl (fun _ => ?_) (fun h => False.elim (((by decide) : ¬ ((1 : Int32) < (0 : Int32))) h))
    refine own_iloadN X58 hx (hb hby at_55) (q := 56) rfl rfl ?_
    refine own_iconst X58 hx (v := (2 : Int32)) (hb hby at_56) (q := 57) rfl rfl ?_
    refine own_icmpM X58 hx (hb hby at_57) (cd := .le) (x := (0 : Int32)) (y := (2 : Int32)) (pt := 69) (q := 60) (by decide) (by decide) rfl rfl (fun _ => ?_) (fun h => False.elim (((by decide) : ¬ ((2 : Int32) < (0 : Int32))) h))
    refine own_iloadN X58 hx (hb hby at_69) (q := 70) rfl rfl ?_
    refine own_iconst X58 hx (v := (3 : Int32)) (hb hby at_70) (q := 71) rfl rfl ?_
    refine own_icmpM X58 hx (hb hby at_71) (cd := .le) (x := (0 : Int32)) (y := (3 : Int32)) (pt := 83) (q := 74) (by decide) (by decide) rfl rfl (fun _ => ?_) (fun h => False.elim (((by decide) : ¬ ((3 : Int32) < (0 : Int32))) h))
    refine own_iloadN X58 hx (hb hby at_83) (q := 84) rfl rfl ?_
    refine own_iconst X58 hx (v := (4 : Int32)) (hb hby at_84) (q := 85) rfl rfl ?_
    refine own_icmpM X58 hx (hb hby at_85) (cd := .le) (x := (0 : Int32)) (y := (4 : Int32)) (pt := 97) (q := 88) (by decide) (by decide) rfl rfl (fun _ => ?_) (fun h => False.elim (((by decide) : ¬ ((4 : Int32) < (0 : Int32))) h))
    refine own_iloadN X58 hx (hb hby at_97) (q := 98) rfl rfl ?_
    refine own_iconst X58 hx (v := (5 : Int32)) (hb hby at_98) (q := 99) rfl rfl ?_
    refine own_icmpM X58 hx (hb hby at_99) (cd := .le) (x := (0 : Int32)) (y := (5 : Int32)) (pt := 111) (q := 102) (by decide) (by decide) rfl rfl (fun _ => ?_) (fun h => False.elim (((by decide) : ¬ ((5 : Int32) < (0 : Int32))) h))
    refine own_iloadN X58 hx (hb hby at_111) (q := 112) rfl rfl ?_
    refine own_bipush X58 hx (v := (6 : Int32)) (hb hby at_112) (q := 114) rfl rfl ?_
    refine own_icmpM X58 hx (hb hby at_114) (cd := .le) (x := (0 : Int32)) (y := (6 : Int32)) (pt := 126) (q := 117) (by decide) (by decide) rfl rfl (fun _ => ?_) (fun h => False.elim (((by decide) : ¬ ((6 : Int32) < (0 : Int32))) h))
    refine own_aloadN X58 hx (hb hby at_126) (q := 127) rfl rfl rfl ?_
    refine own_callVP X58 hx hZ hown (hw _ (List.mem_of_getElem? (i := 18) rfl)) (hw _ (List.mem_of_getElem? (i := 19) rfl)) (hw _ (List.mem_of_getElem? (i := 21) rfl)) (hw _ (List.mem_of_getElem? (i := 21) rfl)) (hw _ (List.mem_of_getElem? (i := 20) rfl)) (hw _ (List.mem_of_getElem? (i := 2) rfl)) (hw _ (List.mem_of_getElem? (i := 22) rfl)) E63 (by decide) (rm4 l Z a0 hw [] a40 ((0 : Int32) + ((p2 &&& (2147483647 : Int32)) % (16777217 : Int32))) T56.heap F64) own_pd2 rfl rfl (by rw [hml]; rfl) (argsL := []) (st := []) rfl (W := 0) (Nat.le_of_eq rfl) (by decide) (by decide) (by decide) (by decide) (hb hby at_127) (q := 130) rfl (fun T67 X68 e69 => ?_)
    refine own_ldc X68 hx hZ hown (hw _ (List.mem_of_getElem? (i := 24) rfl)) (hb hby at_130) (q := 132) rfl ?_
    refine own_iload X68 hx (hb hby at_132) (q := 134) rfl rfl ?_
    refine own_isub X68 hx (hb hby at_134) (q := 135) rfl ?_
    refine own_icmpM X68 hx (hb hby at_135) (cd := .ne) (x := own_f4 ((0 : Int32) + ((p2 &&& (2147483647 : Int32)) % (16777217 : Int32)))) (y := (16777216 : Int32) - ((p2 &&& (2147483647 : Int32)) % (16777217 : Int32))) (pt := 142) (q := 138) (by decide) (by decide) rfl rfl (fun h => False.elim (h (own_left _ : (own_f4 ((0 : Int32) + ((p2 &&& (2147483647 : Int32)) % (16777217 : Int32)))) = ((16777216 : Int32) - ((p2 &&& (2147483647 : Int32)) % (16777217 : Int32)))))) (fun _ => ?_)
    refine own_iconst X68 hx (v := (1 : Int32)) (hb hby at_138) (q := 139) rfl rfl ?_
    refine own_goto X68 hx (hb hby at_139) (q := 143) (by decide) (by decide) ?_
    refine own_retN X68 hx hlk (t := .boolean) (by simp) Bd.returns (hb hby at_143) ?_ (by decide) (by decide)
    exact ⟨rfl, N62⟩
  · rw [hk]
    refine own_iloadN X50 hx (hb hby at_13) (q := 14) rfl rfl ?_
    refine own_ldc X50 hx hZ hown (hw _ (List.mem_of_getElem? (i := 9) rfl)) (hb hby at_14) (q := 16) rfl ?_
    refine own_iand X50 hx (hb hby at_16) (q := 17) rfl ?_
    refine own_ldc X50 hx hZ hown (hw _ (List.mem_of_getElem? (i := 10) rfl)) (hb hby at_17) (q := 19) rfl ?_
    refine own_irem X50 hx (hb hby at_19) (q := 20) rfl (by decide) ?_
    refine own_istore (L' := #[.val (.int p1), .val (.int p2), .val (.ref a40), .val (.int (1 : Int32)), .val (.int ((p2 &&& (2147483647 : Int32)) % (16777217 : Int32)))]) X50 hx (hb hby at_20) (q := 22) rfl rfl ?_
    refine own_aloadN X50 hx (hb hby at_22) (q := 23) rfl rfl rfl ?_
    refine own_iload X50 hx (hb hby at_23) (q := 25) rfl rfl ?_
    refine own_callV X50 hx hZ hown (hw _ (List.mem_of_getElem? (i := 11) rfl)) (hw _ (List.mem_of_getElem? (i := 12) rfl)) (hw _ (List.mem_of_getElem? (i := 14) rfl)) (hw _ (List.mem_of_getElem? (i := 14) rfl)) (hw _ (List.mem_of_getElem? (i := 13) rfl)) (hw _ (List.mem_of_getElem? (i := 2) rfl)) (hw _ (List.mem_of_getElem? (i := 15) rfl)) A43 (by decide) (rm3 l Z a0 hw [] a40 ((p2 &&& (2147483647 : Int32)) % (16777217 : Int32)) (0 : Int32) (0 : Int32) h39 n0 A43 F47 F48 Z45 ) own_pd1 rfl e51 (by rw [hml]; rfl) (argsL := [.int ((p2 &&& (2147483647 : Int32)) % (16777217 : Int32))]) (st := []) rfl (W := 0) (Nat.le_of_eq rfl) (by decide) (by decide) (by decide) (by decide) (hb hby at_25) (q := 28) rfl (fun v73 T74 L75 X76 hQ77 => ?_)
    obtain ⟨rfl, N78, K79, E81, F82, F83⟩ := hQ77
    have Z84 : n0 ≤ T74.heap.size := Nat.le_trans Z46 K79.1
    have N80 := Fr.app N0 N78
    show own_Go p e below s 16 128 (own_Q0 n0) (T74.setTop (mkF m 28 #[.val (.int p1), .val (.int p2), .val (.ref a40), .val (.int (1 : Int32)), .val (.int ((p2 &&& (2147483647 : Int32)) % (16777217 : Int32)))] []))
    refine own_iloadN X76 hx (hb hby at_28) (q := 29) rfl rfl ?_
    refine own_if0M X76 hx (hb hby at_29) (cd := .le) (x := (1 : Int32)) (pt := 41) (q := 32) (by decide) (by decide) rfl rfl (fun h => False.elim (h ((by decide) : (0 : Int32) < (1 : Int32)))) (fun _ => ?_)
    refine own_aloadN X76 hx (hb hby at_32) (q := 33) rfl rfl rfl ?_
    refine own_callV X76 hx hZ hown (hw _ (List.mem_of_getElem? (i := 25) rfl)) (hw _ (List.mem_of_getElem? (i := 26) rfl)) (hw _ (List.mem_of_getElem? (i := 28) rfl)) (hw _ (List.mem_of_getElem? (i := 28) rfl)) (hw _ (List.mem_of_getElem? (i := 27) rfl)) (hw _ (List.mem_of_getElem? (i := 2) rfl)) (hw _ (List.mem_of_getElem? (i := 29) rfl)) E81 (by decide) (rm5 l Z a0 hw [] a40 ((0 : Int32) + ((p2 &&& (2147483647 : Int32)) % (16777217 : Int32))) (0 : Int32) T74.heap n0 E81 F82 F83 Z45 ) own_pd3 rfl rfl (by rw [hml]; rfl) (argsL := []) (st := []) rfl (W := 0) (Nat.le_of_eq rfl) (by decide) (by decide) (by decide) (by decide) (hb hby at_33) (q := 36) rfl (fun v88 T89 L90 X91 hQ92 => ?_)
    obtain ⟨rfl, N93, K94, E96, F97, F98⟩ := hQ92
    have Z99 : n0 ≤ T89.heap.size := Nat.le_trans Z84 K94.1
    have N95 := Fr.app N80 N93
    show own_Go p e below s 16 128 (own_Q0 n0) (T89.setTop (mkF m 36 #[.val (.int p1), .val (.int p2), .val (.ref a40), .val (.int (1 : Int32)), .val (.int ((p2 &&& (2147483647 : Int32)) % (16777217 : Int32)))] [.int (own_f5 a40 ((0 : Int32) + ((p2 &&& (2147483647 : Int32)) % (16777217 : Int32))) (0 : Int32))]))
    refine own_if0M X91 hx (hb hby at_36) (cd := .ne) (x := own_f5 a40 ((0 : Int32) + ((p2 &&& (2147483647 : Int32)) % (16777217 : Int32))) (0 : Int32)) (pt := 41) (q := 39) (by decide) (by decide) rfl rfl (fun _ => ?_) (fun h => False.elim ((by unfold own_f5; decide : ¬ ((own_f5 a40 ((0 : Int32) + ((p2 &&& (2147483647 : Int32)) % (16777217 : Int32))) (0 : Int32)) = (0 : Int32))) h))
    refine own_iloadN X91 hx (hb hby at_41) (q := 42) rfl rfl ?_
    refine own_iconst X91 hx (v := (1 : Int32)) (hb hby at_42) (q := 43) rfl rfl ?_
    refine own_icmpM X91 hx (hb hby at_43) (cd := .le) (x := (1 : Int32)) (y := (1 : Int32)) (pt := 55) (q := 46) (by decide) (by decide) rfl rfl (fun _ => ?_) (fun h => False.elim (((by decide) : ¬ ((1 : Int32) < (1 : Int32))) h))
    refine own_iloadN X91 hx (hb hby at_55) (q := 56) rfl rfl ?_
    refine own_iconst X91 hx (v := (2 : Int32)) (hb hby at_56) (q := 57) rfl rfl ?_
    refine own_icmpM X91 hx (hb hby at_57) (cd := .le) (x := (1 : Int32)) (y := (2 : Int32)) (pt := 69) (q := 60) (by decide) (by decide) rfl rfl (fun _ => ?_) (fun h => False.elim (((by decide) : ¬ ((2 : Int32) < (1 : Int32))) h))
    refine own_iloadN X91 hx (hb hby at_69) (q := 70) rfl rfl ?_
    refine own_iconst X91 hx (v := (3 : Int32)) (hb hby at_70) (q := 71) rfl rfl ?_
    refine own_icmpM X91 hx (hb hby at_71) (cd := .le) (x := (1 : Int32)) (y := (3 : Int32)) (pt := 83) (q := 74) (by decide) (by decide) rfl rfl (fun _ => ?_) (fun h => False.elim (((by decide) : ¬ ((3 : Int32) < (1 : Int32))) h))
    refine own_iloadN X91 hx (hb hby at_83) (q := 84) rfl rfl ?_
    refine own_iconst X91 hx (v := (4 : Int32)) (hb hby at_84) (q := 85) rfl rfl ?_
    refine own_icmpM X91 hx (hb hby at_85) (cd := .le) (x := (1 : Int32)) (y := (4 : Int32)) (pt := 97) (q := 88) (by decide) (by decide) rfl rfl (fun _ => ?_) (fun h => False.elim (((by decide) : ¬ ((4 : Int32) < (1 : Int32))) h))
    refine own_iloadN X91 hx (hb hby at_97) (q := 98) rfl rfl ?_
    refine own_iconst X91 hx (v := (5 : Int32)) (hb hby at_98) (q := 99) rfl rfl ?_
    refine own_icmpM X91 hx (hb hby at_99) (cd := .le) (x := (1 : Int32)) (y := (5 : Int32)) (pt := 111) (q := 102) (by decide) (by decide) rfl rfl (fun _ => ?_) (fun h => False.elim (((by decide) : ¬ ((5 : Int32) < (1 : Int32))) h))
    refine own_iloadN X91 hx (hb hby at_111) (q := 112) rfl rfl ?_
    refine own_bipush X91 hx (v := (6 : Int32)) (hb hby at_112) (q := 114) rfl rfl ?_
    refine own_icmpM X91 hx (hb hby at_114) (cd := .le) (x := (1 : Int32)) (y := (6 : Int32)) (pt := 126) (q := 117) (by decide) (by decide) rfl rfl (fun _ => ?_) (fun h => False.elim (((by decide) : ¬ ((6 : Int32) < (1 : Int32))) h))
    refine own_aloadN X91 hx (hb hby at_126) (q := 127) rfl rfl rfl ?_
    refine own_callVP X91 hx hZ hown (hw _ (List.mem_of_getElem? (i := 18) rfl)) (hw _ (List.mem_of_getElem? (i := 19) rfl)) (hw _ (List.mem_of_getElem? (i := 21) rfl)) (hw _ (List.mem_of_getElem? (i := 21) rfl)) (hw _ (List.mem_of_getElem? (i := 20) rfl)) (hw _ (List.mem_of_getElem? (i := 2) rfl)) (hw _ (List.mem_of_getElem? (i := 22) rfl)) E96 (by decide) (rm4 l Z a0 hw [] a40 ((0 : Int32) + ((p2 &&& (2147483647 : Int32)) % (16777217 : Int32))) T89.heap F97) own_pd2 rfl rfl (by rw [hml]; rfl) (argsL := []) (st := []) rfl (W := 0) (Nat.le_of_eq rfl) (by decide) (by decide) (by decide) (by decide) (hb hby at_127) (q := 130) rfl (fun T100 X101 e102 => ?_)
    refine own_ldc X101 hx hZ hown (hw _ (List.mem_of_getElem? (i := 24) rfl)) (hb hby at_130) (q := 132) rfl ?_
    refine own_iload X101 hx (hb hby at_132) (q := 134) rfl rfl ?_
    refine own_isub X101 hx (hb hby at_134) (q := 135) rfl ?_
    refine own_icmpM X101 hx (hb hby at_135) (cd := .ne) (x := own_f4 ((0 : Int32) + ((p2 &&& (2147483647 : Int32)) % (16777217 : Int32)))) (y := (16777216 : Int32) - ((p2 &&& (2147483647 : Int32)) % (16777217 : Int32))) (pt := 142) (q := 138) (by decide) (by decide) rfl rfl (fun h => False.elim (h (own_left _ : (own_f4 ((0 : Int32) + ((p2 &&& (2147483647 : Int32)) % (16777217 : Int32)))) = ((16777216 : Int32) - ((p2 &&& (2147483647 : Int32)) % (16777217 : Int32)))))) (fun _ => ?_)
    refine own_iconst X101 hx (v := (1 : Int32)) (hb hby at_138) (q := 139) rfl rfl ?_
    refine own_goto X101 hx (hb hby at_139) (q := 143) (by decide) (by decide) ?_
    refine own_retN X101 hx hlk (t := .boolean) (by simp) Bd.returns (hb hby at_143) ?_ (by decide) (by decide)
    exact ⟨rfl, N95⟩
  · rw [hk]
    refine own_iloadN X50 hx (hb hby at_13) (q := 14) rfl rfl ?_
    refine own_ldc X50 hx hZ hown (hw _ (List.mem_of_getElem? (i := 9) rfl)) (hb hby at_14) (q := 16) rfl ?_
    refine own_iand X50 hx (hb hby at_16) (q := 17) rfl ?_
    refine own_ldc X50 hx hZ hown (hw _ (List.mem_of_getElem? (i := 10) rfl)) (hb hby at_17) (q := 19) rfl ?_
    refine own_irem X50 hx (hb hby at_19) (q := 20) rfl (by decide) ?_
    refine own_istore (L' := #[.val (.int p1), .val (.int p2), .val (.ref a40), .val (.int (2 : Int32)), .val (.int ((p2 &&& (2147483647 : Int32)) % (16777217 : Int32)))]) X50 hx (hb hby at_20) (q := 22) rfl rfl ?_
    refine own_aloadN X50 hx (hb hby at_22) (q := 23) rfl rfl rfl ?_
    refine own_iload X50 hx (hb hby at_23) (q := 25) rfl rfl ?_
    refine own_callV X50 hx hZ hown (hw _ (List.mem_of_getElem? (i := 11) rfl)) (hw _ (List.mem_of_getElem? (i := 12) rfl)) (hw _ (List.mem_of_getElem? (i := 14) rfl)) (hw _ (List.mem_of_getElem? (i := 14) rfl)) (hw _ (List.mem_of_getElem? (i := 13) rfl)) (hw _ (List.mem_of_getElem? (i := 2) rfl)) (hw _ (List.mem_of_getElem? (i := 15) rfl)) A43 (by decide) (rm3 l Z a0 hw [] a40 ((p2 &&& (2147483647 : Int32)) % (16777217 : Int32)) (0 : Int32) (0 : Int32) h39 n0 A43 F47 F48 Z45 ) own_pd1 rfl e51 (by rw [hml]; rfl) (argsL := [.int ((p2 &&& (2147483647 : Int32)) % (16777217 : Int32))]) (st := []) rfl (W := 0) (Nat.le_of_eq rfl) (by decide) (by decide) (by decide) (by decide) (hb hby at_25) (q := 28) rfl (fun v106 T107 L108 X109 hQ110 => ?_)
    obtain ⟨rfl, N111, K112, E114, F115, F116⟩ := hQ110
    have Z117 : n0 ≤ T107.heap.size := Nat.le_trans Z46 K112.1
    have N113 := Fr.app N0 N111
    show own_Go p e below s 16 128 (own_Q0 n0) (T107.setTop (mkF m 28 #[.val (.int p1), .val (.int p2), .val (.ref a40), .val (.int (2 : Int32)), .val (.int ((p2 &&& (2147483647 : Int32)) % (16777217 : Int32)))] []))
    refine own_iloadN X109 hx (hb hby at_28) (q := 29) rfl rfl ?_
    refine own_if0M X109 hx (hb hby at_29) (cd := .le) (x := (2 : Int32)) (pt := 41) (q := 32) (by decide) (by decide) rfl rfl (fun h => False.elim (h ((by decide) : (0 : Int32) < (2 : Int32)))) (fun _ => ?_)
    refine own_aloadN X109 hx (hb hby at_32) (q := 33) rfl rfl rfl ?_
    refine own_callV X109 hx hZ hown (hw _ (List.mem_of_getElem? (i := 25) rfl)) (hw _ (List.mem_of_getElem? (i := 26) rfl)) (hw _ (List.mem_of_getElem? (i := 28) rfl)) (hw _ (List.mem_of_getElem? (i := 28) rfl)) (hw _ (List.mem_of_getElem? (i := 27) rfl)) (hw _ (List.mem_of_getElem? (i := 2) rfl)) (hw _ (List.mem_of_getElem? (i := 29) rfl)) E114 (by decide) (rm5 l Z a0 hw [] a40 ((0 : Int32) + ((p2 &&& (2147483647 : Int32)) % (16777217 : Int32))) (0 : Int32) T107.heap n0 E114 F115 F116 Z45 ) own_pd3 rfl rfl (by rw [hml]; rfl) (argsL := []) (st := []) rfl (W := 0) (Nat.le_of_eq rfl) (by decide) (by decide) (by decide) (by decide) (hb hby at_33) (q := 36) rfl (fun v121 T122 L123 X124 hQ125 => ?_)
    obtain ⟨rfl, N126, K127, E129, F130, F131⟩ := hQ125
    have Z132 : n0 ≤ T122.heap.size := Nat.le_trans Z117 K127.1
    have N128 := Fr.app N113 N126
    show own_Go p e below s 16 128 (own_Q0 n0) (T122.setTop (mkF m 36 #[.val (.int p1), .val (.int p2), .val (.ref a40), .val (.int (2 : Int32)), .val (.int ((p2 &&& (2147483647 : Int32)) % (16777217 : Int32)))] [.int (own_f5 a40 ((0 : Int32) + ((p2 &&& (2147483647 : Int32)) % (16777217 : Int32))) (0 : Int32))]))
    refine own_if0M X124 hx (hb hby at_36) (cd := .ne) (x := own_f5 a40 ((0 : Int32) + ((p2 &&& (2147483647 : Int32)) % (16777217 : Int32))) (0 : Int32)) (pt := 41) (q := 39) (by decide) (by decide) rfl rfl (fun _ => ?_) (fun h => False.elim ((by unfold own_f5; decide : ¬ ((own_f5 a40 ((0 : Int32) + ((p2 &&& (2147483647 : Int32)) % (16777217 : Int32))) (0 : Int32)) = (0 : Int32))) h))
    refine own_iloadN X124 hx (hb hby at_41) (q := 42) rfl rfl ?_
    refine own_iconst X124 hx (v := (1 : Int32)) (hb hby at_42) (q := 43) rfl rfl ?_
    refine own_icmpM X124 hx (hb hby at_43) (cd := .le) (x := (2 : Int32)) (y := (1 : Int32)) (pt := 55) (q := 46) (by decide) (by decide) rfl rfl (fun h => False.elim (h ((by decide) : (1 : Int32) < (2 : Int32)))) (fun _ => ?_)
    refine own_aloadN X124 hx (hb hby at_46) (q := 47) rfl rfl rfl ?_
    refine own_callV X124 hx hZ hown (hw _ (List.mem_of_getElem? (i := 25) rfl)) (hw _ (List.mem_of_getElem? (i := 26) rfl)) (hw _ (List.mem_of_getElem? (i := 28) rfl)) (hw _ (List.mem_of_getElem? (i := 28) rfl)) (hw _ (List.mem_of_getElem? (i := 27) rfl)) (hw _ (List.mem_of_getElem? (i := 2) rfl)) (hw _ (List.mem_of_getElem? (i := 29) rfl)) E129 (by decide) (rm5 l Z a0 hw [] a40 ((0 : Int32) + ((p2 &&& (2147483647 : Int32)) % (16777217 : Int32))) ((0 : Int32) + (1 : Int32)) T122.heap n0 E129 F130 F131 Z45 ) own_pd3 rfl rfl (by rw [hml]; rfl) (argsL := []) (st := []) rfl (W := 0) (Nat.le_of_eq rfl) (by decide) (by decide) (by decide) (by decide) (hb hby at_47) (q := 50) rfl (fun v136 T137 L138 X139 hQ140 => ?_)
    obtain ⟨rfl, N141, K142, E144, F145, F146⟩ := hQ140
    have Z147 : n0 ≤ T137.heap.size := Nat.le_trans Z132 K142.1
    have N143 := Fr.app N128 N141
    show own_Go p e below s 16 128 (own_Q0 n0) (T137.setTop (mkF m 50 #[.val (.int p1), .val (.int p2), .val (.ref a40), .val (.int (2 : Int32)), .val (.int ((p2 &&& (2147483647 : Int32)) % (16777217 : Int32)))] [.int (own_f5 a40 ((0 : Int32) + ((p2 &&& (2147483647 : Int32)) % (16777217 : Int32))) ((0 : Int32) + (1 : Int32)))]))
    refine own_if0M X139 hx (hb hby at_50) (cd := .ne) (x := own_f5 a40 ((0 : Int32) + ((p2 &&& (2147483647 : Int32)) % (16777217 : Int32))) ((0 : Int32) + (1 : Int32))) (pt := 55) (q := 53) (by decide) (by decide) rfl rfl (fun _ => ?_) (fun h => False.elim ((by unfold own_f5; decide : ¬ ((own_f5 a40 ((0 : Int32) + ((p2 &&& (2147483647 : Int32)) % (16777217 : Int32))) ((0 : Int32) + (1 : Int32))) = (0 : Int32))) h))
    refine own_iloadN X139 hx (hb hby at_55) (q := 56) rfl rfl ?_
    refine own_iconst X139 hx (v := (2 : Int32)) (hb hby at_56) (q := 57) rfl rfl ?_
    refine own_icmpM X139 hx (hb hby at_57) (cd := .le) (x := (2 : Int32)) (y := (2 : Int32)) (pt := 69) (q := 60) (by decide) (by decide) rfl rfl (fun _ => ?_) (fun h => False.elim (((by decide) : ¬ ((2 : Int32) < (2 : Int32))) h))
    refine own_iloadN X139 hx (hb hby at_69) (q := 70) rfl rfl ?_
    refine own_iconst X139 hx (v := (3 : Int32)) (hb hby at_70) (q := 71) rfl rfl ?_
    refine own_icmpM X139 hx (hb hby at_71) (cd := .le) (x := (2 : Int32)) (y := (3 : Int32)) (pt := 83) (q := 74) (by decide) (by decide) rfl rfl (fun _ => ?_) (fun h => False.elim (((by decide) : ¬ ((3 : Int32) < (2 : Int32))) h))
    refine own_iloadN X139 hx (hb hby at_83) (q := 84) rfl rfl ?_
    refine own_iconst X139 hx (v := (4 : Int32)) (hb hby at_84) (q := 85) rfl rfl ?_
    refine own_icmpM X139 hx (hb hby at_85) (cd := .le) (x := (2 : Int32)) (y := (4 : Int32)) (pt := 97) (q := 88) (by decide) (by decide) rfl rfl (fun _ => ?_) (fun h => False.elim (((by decide) : ¬ ((4 : Int32) < (2 : Int32))) h))
    refine own_iloadN X139 hx (hb hby at_97) (q := 98) rfl rfl ?_
    refine own_iconst X139 hx (v := (5 : Int32)) (hb hby at_98) (q := 99) rfl rfl ?_
    refine own_icmpM X139 hx (hb hby at_99) (cd := .le) (x := (2 : Int32)) (y := (5 : Int32)) (pt := 111) (q := 102) (by decide) (by decide) rfl rfl (fun _ => ?_) (fun h => False.elim (((by decide) : ¬ ((5 : Int32) < (2 : Int32))) h))
    refine own_iloadN X139 hx (hb hby at_111) (q := 112) rfl rfl ?_
    refine own_bipush X139 hx (v := (6 : Int32)) (hb hby at_112) (q := 114) rfl rfl ?_
    refine own_icmpM X139 hx (hb hby at_114) (cd := .le) (x := (2 : Int32)) (y := (6 : Int32)) (pt := 126) (q := 117) (by decide) (by decide) rfl rfl (fun _ => ?_) (fun h => False.elim (((by decide) : ¬ ((6 : Int32) < (2 : Int32))) h))
    refine own_aloadN X139 hx (hb hby at_126) (q := 127) rfl rfl rfl ?_
    refine own_callVP X139 hx hZ hown (hw _ (List.mem_of_getElem? (i := 18) rfl)) (hw _ (List.mem_of_getElem? (i := 19) rfl)) (hw _ (List.mem_of_getElem? (i := 21) rfl)) (hw _ (List.mem_of_getElem? (i := 21) rfl)) (hw _ (List.mem_of_getElem? (i := 20) rfl)) (hw _ (List.mem_of_getElem? (i := 2) rfl)) (hw _ (List.mem_of_getElem? (i := 22) rfl)) E144 (by decide) (rm4 l Z a0 hw [] a40 ((0 : Int32) + ((p2 &&& (2147483647 : Int32)) % (16777217 : Int32))) T137.heap F145) own_pd2 rfl rfl (by rw [hml]; rfl) (argsL := []) (st := []) rfl (W := 0) (Nat.le_of_eq rfl) (by decide) (by decide) (by decide) (by decide) (hb hby at_127) (q := 130) rfl (fun T148 X149 e150 => ?_)
    refine own_ldc X149 hx hZ hown (hw _ (List.mem_of_getElem? (i := 24) rfl)) (hb hby at_130) (q := 132) rfl ?_
    refine own_iload X149 hx (hb hby at_132) (q := 134) rfl rfl ?_
    refine own_isub X149 hx (hb hby at_134) (q := 135) rfl ?_
    refine own_icmpM X149 hx (hb hby at_135) (cd := .ne) (x := own_f4 ((0 : Int32) + ((p2 &&& (2147483647 : Int32)) % (16777217 : Int32)))) (y := (16777216 : Int32) - ((p2 &&& (2147483647 : Int32)) % (16777217 : Int32))) (pt := 142) (q := 138) (by decide) (by decide) rfl rfl (fun h => False.elim (h (own_left _ : (own_f4 ((0 : Int32) + ((p2 &&& (2147483647 : Int32)) % (16777217 : Int32)))) = ((16777216 : Int32) - ((p2 &&& (2147483647 : Int32)) % (16777217 : Int32)))))) (fun _ => ?_)
    refine own_iconst X149 hx (v := (1 : Int32)) (hb hby at_138) (q := 139) rfl rfl ?_
    refine own_goto X149 hx (hb hby at_139) (q := 143) (by decide) (by decide) ?_
    refine own_retN X149 hx hlk (t := .boolean) (by simp) Bd.returns (hb hby at_143) ?_ (by decide) (by decide)
    exact ⟨rfl, N143⟩
  · rw [hk]
    refine own_iloadN X50 hx (hb hby at_13) (q := 14) rfl rfl ?_
    refine own_ldc X50 hx hZ hown (hw _ (List.mem_of_getElem? (i := 9) rfl)) (hb hby at_14) (q := 16) rfl ?_
    refine own_iand X50 hx (hb hby at_16) (q := 17) rfl ?_
    refine own_ldc X50 hx hZ hown (hw _ (List.mem_of_getElem? (i := 10) rfl)) (hb hby at_17) (q := 19) rfl ?_
    refine own_irem X50 hx (hb hby at_19) (q := 20) rfl (by decide) ?_
    refine own_istore (L' := #[.val (.int p1), .val (.int p2), .val (.ref a40), .val (.int (3 : Int32)), .val (.int ((p2 &&& (2147483647 : Int32)) % (16777217 : Int32)))]) X50 hx (hb hby at_20) (q := 22) rfl rfl ?_
    refine own_aloadN X50 hx (hb hby at_22) (q := 23) rfl rfl rfl ?_
    refine own_iload X50 hx (hb hby at_23) (q := 25) rfl rfl ?_
    refine own_callV X50 hx hZ hown (hw _ (List.mem_of_getElem? (i := 11) rfl)) (hw _ (List.mem_of_getElem? (i := 12) rfl)) (hw _ (List.mem_of_getElem? (i := 14) rfl)) (hw _ (List.mem_of_getElem? (i := 14) rfl)) (hw _ (List.mem_of_getElem? (i := 13) rfl)) (hw _ (List.mem_of_getElem? (i := 2) rfl)) (hw _ (List.mem_of_getElem? (i := 15) rfl)) A43 (by decide) (rm3 l Z a0 hw [] a40 ((p2 &&& (2147483647 : Int32)) % (16777217 : Int32)) (0 : Int32) (0 : Int32) h39 n0 A43 F47 F48 Z45 ) own_pd1 rfl e51 (by rw [hml]; rfl) (argsL := [.int ((p2 &&& (2147483647 : Int32)) % (16777217 : Int32))]) (st := []) rfl (W := 0) (Nat.le_of_eq rfl) (by decide) (by decide) (by decide) (by decide) (hb hby at_25) (q := 28) rfl (fun v154 T155 L156 X157 hQ158 => ?_)
    obtain ⟨rfl, N159, K160, E162, F163, F164⟩ := hQ158
    have Z165 : n0 ≤ T155.heap.size := Nat.le_trans Z46 K160.1
    have N161 := Fr.app N0 N159
    show own_Go p e below s 16 128 (own_Q0 n0) (T155.setTop (mkF m 28 #[.val (.int p1), .val (.int p2), .val (.ref a40), .val (.int (3 : Int32)), .val (.int ((p2 &&& (2147483647 : Int32)) % (16777217 : Int32)))] []))
    refine own_iloadN X157 hx (hb hby at_28) (q := 29) rfl rfl ?_
    refine own_if0M X157 hx (hb hby at_29) (cd := .le) (x := (3 : Int32)) (pt := 41) (q := 32) (by decide) (by decide) rfl rfl (fun h => False.elim (h ((by decide) : (0 : Int32) < (3 : Int32)))) (fun _ => ?_)
    refine own_aloadN X157 hx (hb hby at_32) (q := 33) rfl rfl rfl ?_
    refine own_callV X157 hx hZ hown (hw _ (List.mem_of_getElem? (i := 25) rfl)) (hw _ (List.mem_of_getElem? (i := 26) rfl)) (hw _ (List.mem_of_getElem? (i := 28) rfl)) (hw _ (List.mem_of_getElem? (i := 28) rfl)) (hw _ (List.mem_of_getElem? (i := 27) rfl)) (hw _ (List.mem_of_getElem? (i := 2) rfl)) (hw _ (List.mem_of_getElem? (i := 29) rfl)) E162 (by decide) (rm5 l Z a0 hw [] a40 ((0 : Int32) + ((p2 &&& (2147483647 : Int32)) % (16777217 : Int32))) (0 : Int32) T155.heap n0 E162 F163 F164 Z45 ) own_pd3 rfl rfl (by rw [hml]; rfl) (argsL := []) (st := []) rfl (W := 0) (Nat.le_of_eq rfl) (by decide) (by decide) (by decide) (by decide) (hb hby at_33) (q := 36) rfl (fun v169 T170 L171 X172 hQ173 => ?_)
    obtain ⟨rfl, N174, K175, E177, F178, F179⟩ := hQ173
    have Z180 : n0 ≤ T170.heap.size := Nat.le_trans Z165 K175.1
    have N176 := Fr.app N161 N174
    show own_Go p e below s 16 128 (own_Q0 n0) (T170.setTop (mkF m 36 #[.val (.int p1), .val (.int p2), .val (.ref a40), .val (.int (3 : Int32)), .val (.int ((p2 &&& (2147483647 : Int32)) % (16777217 : Int32)))] [.int (own_f5 a40 ((0 : Int32) + ((p2 &&& (2147483647 : Int32)) % (16777217 : Int32))) (0 : Int32))]))
    refine own_if0M X172 hx (hb hby at_36) (cd := .ne) (x := own_f5 a40 ((0 : Int32) + ((p2 &&& (2147483647 : Int32)) % (16777217 : Int32))) (0 : Int32)) (pt := 41) (q := 39) (by decide) (by decide) rfl rfl (fun _ => ?_) (fun h => False.elim ((by unfold own_f5; decide : ¬ ((own_f5 a40 ((0 : Int32) + ((p2 &&& (2147483647 : Int32)) % (16777217 : Int32))) (0 : Int32)) = (0 : Int32))) h))
    refine own_iloadN X172 hx (hb hby at_41) (q := 42) rfl rfl ?_
    refine own_iconst X172 hx (v := (1 : Int32)) (hb hby at_42) (q := 43) rfl rfl ?_
    refine own_icmpM X172 hx (hb hby at_43) (cd := .le) (x := (3 : Int32)) (y := (1 : Int32)) (pt := 55) (q := 46) (by decide) (by decide) rfl rfl (fun h => False.elim (h ((by decide) : (1 : Int32) < (3 : Int32)))) (fun _ => ?_)
    refine own_aloadN X172 hx (hb hby at_46) (q := 47) rfl rfl rfl ?_
    refine own_callV X172 hx hZ hown (hw _ (List.mem_of_getElem? (i := 25) rfl)) (hw _ (List.mem_of_getElem? (i := 26) rfl)) (hw _ (List.mem_of_getElem? (i := 28) rfl)) (hw _ (List.mem_of_getElem? (i := 28) rfl)) (hw _ (List.mem_of_getElem? (i := 27) rfl)) (hw _ (List.mem_of_getElem? (i := 2) rfl)) (hw _ (List.mem_of_getElem? (i := 29) rfl)) E177 (by decide) (rm5 l Z a0 hw [] a40 ((0 : Int32) + ((p2 &&& (2147483647 : Int32)) % (16777217 : Int32))) ((0 : Int32) + (1 : Int32)) T170.heap n0 E177 F178 F179 Z45 ) own_pd3 rfl rfl (by rw [hml]; rfl) (argsL := []) (st := []) rfl (W := 0) (Nat.le_of_eq rfl) (by decide) (by decide) (by decide) (by decide) (hb hby at_47) (q := 50) rfl (fun v184 T185 L186 X187 hQ188 => ?_)
    obtain ⟨rfl, N189, K190, E192, F193, F194⟩ := hQ188
    have Z195 : n0 ≤ T185.heap.size := Nat.le_trans Z180 K190.1
    have N191 := Fr.app N176 N189
    show own_Go p e below s 16 128 (own_Q0 n0) (T185.setTop (mkF m 50 #[.val (.int p1), .val (.int p2), .val (.ref a40), .val (.int (3 : Int32)), .val (.int ((p2 &&& (2147483647 : Int32)) % (16777217 : Int32)))] [.int (own_f5 a40 ((0 : Int32) + ((p2 &&& (2147483647 : Int32)) % (16777217 : Int32))) ((0 : Int32) + (1 : Int32)))]))
    refine own_if0M X187 hx (hb hby at_50) (cd := .ne) (x := own_f5 a40 ((0 : Int32) + ((p2 &&& (2147483647 : Int32)) % (16777217 : Int32))) ((0 : Int32) + (1 : Int32))) (pt := 55) (q := 53) (by decide) (by decide) rfl rfl (fun _ => ?_) (fun h => False.elim ((by unfold own_f5; decide : ¬ ((own_f5 a40 ((0 : Int32) + ((p2 &&& (2147483647 : Int32)) % (16777217 : Int32))) ((0 : Int32) + (1 : Int32))) = (0 : Int32))) h))
    refine own_iloadN X187 hx (hb hby at_55) (q := 56) rfl rfl ?_
    refine own_iconst X187 hx (v := (2 : Int32)) (hb hby at_56) (q := 57) rfl rfl ?_
    refine own_icmpM X187 hx (hb hby at_57) (cd := .le) (x := (3 : Int32)) (y := (2 : Int32)) (pt := 69) (q := 60) (by decide) (by decide) rfl rfl (fun h => False.elim (h ((by decide) : (2 : Int32) < (3 : Int32)))) (fun _ => ?_)
    refine own_aloadN X187 hx (hb hby at_60) (q := 61) rfl rfl rfl ?_
    refine own_callV X187 hx hZ hown (hw _ (List.mem_of_getElem? (i := 25) rfl)) (hw _ (List.mem_of_getElem? (i := 26) rfl)) (hw _ (List.mem_of_getElem? (i := 28) rfl)) (hw _ (List.mem_of_getElem? (i := 28) rfl)) (hw _ (List.mem_of_getElem? (i := 27) rfl)) (hw _ (List.mem_of_getElem? (i := 2) rfl)) (hw _ (List.mem_of_getElem? (i := 29) rfl)) E192 (by decide) (rm5 l Z a0 hw [] a40 ((0 : Int32) + ((p2 &&& (2147483647 : Int32)) % (16777217 : Int32))) (((0 : Int32) + (1 : Int32)) + (1 : Int32)) T185.heap n0 E192 F193 F194 Z45 ) own_pd3 rfl rfl (by rw [hml]; rfl) (argsL := []) (st := []) rfl (W := 0) (Nat.le_of_eq rfl) (by decide) (by decide) (by decide) (by decide) (hb hby at_61) (q := 64) rfl (fun v199 T200 L201 X202 hQ203 => ?_)
    obtain ⟨rfl, N204, K205, E207, F208, F209⟩ := hQ203
    have Z210 : n0 ≤ T200.heap.size := Nat.le_trans Z195 K205.1
    have N206 := Fr.app N191 N204
    show own_Go p e below s 16 128 (own_Q0 n0) (T200.setTop (mkF m 64 #[.val (.int p1), .val (.int p2), .val (.ref a40), .val (.int (3 : Int32)), .val (.int ((p2 &&& (2147483647 : Int32)) % (16777217 : Int32)))] [.int (own_f5 a40 ((0 : Int32) + ((p2 &&& (2147483647 : Int32)) % (16777217 : Int32))) (((0 : Int32) + (1 : Int32)) + (1 : Int32)))]))
    refine own_if0M X202 hx (hb hby at_64) (cd := .ne) (x := own_f5 a40 ((0 : Int32) + ((p2 &&& (2147483647 : Int32)) % (16777217 : Int32))) (((0 : Int32) + (1 : Int32)) + (1 : Int32))) (pt := 69) (q := 67) (by decide) (by decide) rfl rfl (fun _ => ?_) (fun h => False.elim ((by unfold own_f5; decide : ¬ ((own_f5 a40 ((0 : Int32) + ((p2 &&& (2147483647 : Int32)) % (16777217 : Int32))) (((0 : Int32) + (1 : Int32)) + (1 : Int32))) = (0 : Int32))) h))
    refine own_iloadN X202 hx (hb hby at_69) (q := 70) rfl rfl ?_
    refine own_iconst X202 hx (v := (3 : Int32)) (hb hby at_70) (q := 71) rfl rfl ?_
    refine own_icmpM X202 hx (hb hby at_71) (cd := .le) (x := (3 : Int32)) (y := (3 : Int32)) (pt := 83) (q := 74) (by decide) (by decide) rfl rfl (fun _ => ?_) (fun h => False.elim (((by decide) : ¬ ((3 : Int32) < (3 : Int32))) h))
    refine own_iloadN X202 hx (hb hby at_83) (q := 84) rfl rfl ?_
    refine own_iconst X202 hx (v := (4 : Int32)) (hb hby at_84) (q := 85) rfl rfl ?_
    refine own_icmpM X202 hx (hb hby at_85) (cd := .le) (x := (3 : Int32)) (y := (4 : Int32)) (pt := 97) (q := 88) (by decide) (by decide) rfl rfl (fun _ => ?_) (fun h => False.elim (((by decide) : ¬ ((4 : Int32) < (3 : Int32))) h))
    refine own_iloadN X202 hx (hb hby at_97) (q := 98) rfl rfl ?_
    refine own_iconst X202 hx (v := (5 : Int32)) (hb hby at_98) (q := 99) rfl rfl ?_
    refine own_icmpM X202 hx (hb hby at_99) (cd := .le) (x := (3 : Int32)) (y := (5 : Int32)) (pt := 111) (q := 102) (by decide) (by decide) rfl rfl (fun _ => ?_) (fun h => False.elim (((by decide) : ¬ ((5 : Int32) < (3 : Int32))) h))
    refine own_iloadN X202 hx (hb hby at_111) (q := 112) rfl rfl ?_
    refine own_bipush X202 hx (v := (6 : Int32)) (hb hby at_112) (q := 114) rfl rfl ?_
    refine own_icmpM X202 hx (hb hby at_114) (cd := .le) (x := (3 : Int32)) (y := (6 : Int32)) (pt := 126) (q := 117) (by decide) (by decide) rfl rfl (fun _ => ?_) (fun h => False.elim (((by decide) : ¬ ((6 : Int32) < (3 : Int32))) h))
    refine own_aloadN X202 hx (hb hby at_126) (q := 127) rfl rfl rfl ?_
    refine own_callVP X202 hx hZ hown (hw _ (List.mem_of_getElem? (i := 18) rfl)) (hw _ (List.mem_of_getElem? (i := 19) rfl)) (hw _ (List.mem_of_getElem? (i := 21) rfl)) (hw _ (List.mem_of_getElem? (i := 21) rfl)) (hw _ (List.mem_of_getElem? (i := 20) rfl)) (hw _ (List.mem_of_getElem? (i := 2) rfl)) (hw _ (List.mem_of_getElem? (i := 22) rfl)) E207 (by decide) (rm4 l Z a0 hw [] a40 ((0 : Int32) + ((p2 &&& (2147483647 : Int32)) % (16777217 : Int32))) T200.heap F208) own_pd2 rfl rfl (by rw [hml]; rfl) (argsL := []) (st := []) rfl (W := 0) (Nat.le_of_eq rfl) (by decide) (by decide) (by decide) (by decide) (hb hby at_127) (q := 130) rfl (fun T211 X212 e213 => ?_)
    refine own_ldc X212 hx hZ hown (hw _ (List.mem_of_getElem? (i := 24) rfl)) (hb hby at_130) (q := 132) rfl ?_
    refine own_iload X212 hx (hb hby at_132) (q := 134) rfl rfl ?_
    refine own_isub X212 hx (hb hby at_134) (q := 135) rfl ?_
    refine own_icmpM X212 hx (hb hby at_135) (cd := .ne) (x := own_f4 ((0 : Int32) + ((p2 &&& (2147483647 : Int32)) % (16777217 : Int32)))) (y := (16777216 : Int32) - ((p2 &&& (2147483647 : Int32)) % (16777217 : Int32))) (pt := 142) (q := 138) (by decide) (by decide) rfl rfl (fun h => False.elim (h (own_left _ : (own_f4 ((0 : Int32) + ((p2 &&& (2147483647 : Int32)) % (16777217 : Int32)))) = ((16777216 : Int32) - ((p2 &&& (2147483647 : Int32)) % (16777217 : Int32)))))) (fun _ => ?_)
    refine own_iconst X212 hx (v := (1 : Int32)) (hb hby at_138) (q := 139) rfl rfl ?_
    refine own_goto X212 hx (hb hby at_139) (q := 143) (by decide) (by decide) ?_
    refine own_retN X212 hx hlk (t := .boolean) (by simp) Bd.returns (hb hby at_143) ?_ (by decide) (by decide)
    exact ⟨rfl, N206⟩
  · rw [hk]
    refine own_iloadN X50 hx (hb hby at_13) (q := 14) rfl rfl ?_
    refine own_ldc X50 hx hZ hown (hw _ (List.mem_of_getElem? (i := 9) rfl)) (hb hby at_14) (q := 16) rfl ?_
    refine own_iand X50 hx (hb hby at_16) (q := 17) rfl ?_
    refine own_ldc X50 hx hZ hown (hw _ (List.mem_of_getElem? (i := 10) rfl)) (hb hby at_17) (q := 19) rfl ?_
    refine own_irem X50 hx (hb hby at_19) (q := 20) rfl (by decide) ?_
    refine own_istore (L' := #[.val (.int p1), .val (.int p2), .val (.ref a40), .val (.int (4 : Int32)), .val (.int ((p2 &&& (2147483647 : Int32)) % (16777217 : Int32)))]) X50 hx (hb hby at_20) (q := 22) rfl rfl ?_
    refine own_aloadN X50 hx (hb hby at_22) (q := 23) rfl rfl rfl ?_
    refine own_iload X50 hx (hb hby at_23) (q := 25) rfl rfl ?_
    refine own_callV X50 hx hZ hown (hw _ (List.mem_of_getElem? (i := 11) rfl)) (hw _ (List.mem_of_getElem? (i := 12) rfl)) (hw _ (List.mem_of_getElem? (i := 14) rfl)) (hw _ (List.mem_of_getElem? (i := 14) rfl)) (hw _ (List.mem_of_getElem? (i := 13) rfl)) (hw _ (List.mem_of_getElem? (i := 2) rfl)) (hw _ (List.mem_of_getElem? (i := 15) rfl)) A43 (by decide) (rm3 l Z a0 hw [] a40 ((p2 &&& (2147483647 : Int32)) % (16777217 : Int32)) (0 : Int32) (0 : Int32) h39 n0 A43 F47 F48 Z45 ) own_pd1 rfl e51 (by rw [hml]; rfl) (argsL := [.int ((p2 &&& (2147483647 : Int32)) % (16777217 : Int32))]) (st := []) rfl (W := 0) (Nat.le_of_eq rfl) (by decide) (by decide) (by decide) (by decide) (hb hby at_25) (q := 28) rfl (fun v217 T218 L219 X220 hQ221 => ?_)
    obtain ⟨rfl, N222, K223, E225, F226, F227⟩ := hQ221
    have Z228 : n0 ≤ T218.heap.size := Nat.le_trans Z46 K223.1
    have N224 := Fr.app N0 N222
    show own_Go p e below s 16 128 (own_Q0 n0) (T218.setTop (mkF m 28 #[.val (.int p1), .val (.int p2), .val (.ref a40), .val (.int (4 : Int32)), .val (.int ((p2 &&& (2147483647 : Int32)) % (16777217 : Int32)))] []))
    refine own_iloadN X220 hx (hb hby at_28) (q := 29) rfl rfl ?_
    refine own_if0M X220 hx (hb hby at_29) (cd := .le) (x := (4 : Int32)) (pt := 41) (q := 32) (by decide) (by decide) rfl rfl (fun h => False.elim (h ((by decide) : (0 : Int32) < (4 : Int32)))) (fun _ => ?_)
    refine own_aloadN X220 hx (hb hby at_32) (q := 33) rfl rfl rfl ?_
    refine own_callV X220 hx hZ hown (hw _ (List.mem_of_getElem? (i := 25) rfl)) (hw _ (List.mem_of_getElem? (i := 26) rfl)) (hw _ (List.mem_of_getElem? (i := 28) rfl)) (hw _ (List.mem_of_getElem? (i := 28) rfl)) (hw _ (List.mem_of_getElem? (i := 27) rfl)) (hw _ (List.mem_of_getElem? (i := 2) rfl)) (hw _ (List.mem_of_getElem? (i := 29) rfl)) E225 (by decide) (rm5 l Z a0 hw [] a40 ((0 : Int32) + ((p2 &&& (2147483647 : Int32)) % (16777217 : Int32))) (0 : Int32) T218.heap n0 E225 F226 F227 Z45 ) own_pd3 rfl rfl (by rw [hml]; rfl) (argsL := []) (st := []) rfl (W := 0) (Nat.le_of_eq rfl) (by decide) (by decide) (by decide) (by decide) (hb hby at_33) (q := 36) rfl (fun v232 T233 L234 X235 hQ236 => ?_)
    obtain ⟨rfl, N237, K238, E240, F241, F242⟩ := hQ236
    have Z243 : n0 ≤ T233.heap.size := Nat.le_trans Z228 K238.1
    have N239 := Fr.app N224 N237
    show own_Go p e below s 16 128 (own_Q0 n0) (T233.setTop (mkF m 36 #[.val (.int p1), .val (.int p2), .val (.ref a40), .val (.int (4 : Int32)), .val (.int ((p2 &&& (2147483647 : Int32)) % (16777217 : Int32)))] [.int (own_f5 a40 ((0 : Int32) + ((p2 &&& (2147483647 : Int32)) % (16777217 : Int32))) (0 : Int32))]))
    refine own_if0M X235 hx (hb hby at_36) (cd := .ne) (x := own_f5 a40 ((0 : Int32) + ((p2 &&& (2147483647 : Int32)) % (16777217 : Int32))) (0 : Int32)) (pt := 41) (q := 39) (by decide) (by decide) rfl rfl (fun _ => ?_) (fun h => False.elim ((by unfold own_f5; decide : ¬ ((own_f5 a40 ((0 : Int32) + ((p2 &&& (2147483647 : Int32)) % (16777217 : Int32))) (0 : Int32)) = (0 : Int32))) h))
    refine own_iloadN X235 hx (hb hby at_41) (q := 42) rfl rfl ?_
    refine own_iconst X235 hx (v := (1 : Int32)) (hb hby at_42) (q := 43) rfl rfl ?_
    refine own_icmpM X235 hx (hb hby at_43) (cd := .le) (x := (4 : Int32)) (y := (1 : Int32)) (pt := 55) (q := 46) (by decide) (by decide) rfl rfl (fun h => False.elim (h ((by decide) : (1 : Int32) < (4 : Int32)))) (fun _ => ?_)
    refine own_aloadN X235 hx (hb hby at_46) (q := 47) rfl rfl rfl ?_
    refine own_callV X235 hx hZ hown (hw _ (List.mem_of_getElem? (i := 25) rfl)) (hw _ (List.mem_of_getElem? (i := 26) rfl)) (hw _ (List.mem_of_getElem? (i := 28) rfl)) (hw _ (List.mem_of_getElem? (i := 28) rfl)) (hw _ (List.mem_of_getElem? (i := 27) rfl)) (hw _ (List.mem_of_getElem? (i := 2) rfl)) (hw _ (List.mem_of_getElem? (i := 29) rfl)) E240 (by decide) (rm5 l Z a0 hw [] a40 ((0 : Int32) + ((p2 &&& (2147483647 : Int32)) % (16777217 : Int32))) ((0 : Int32) + (1 : Int32)) T233.heap n0 E240 F241 F242 Z45 ) own_pd3 rfl rfl (by rw [hml]; rfl) (argsL := []) (st := []) rfl (W := 0) (Nat.le_of_eq rfl) (by decide) (by decide) (by decide) (by decide) (hb hby at_47) (q := 50) rfl (fun v247 T248 L249 X250 hQ251 => ?_)
    obtain ⟨rfl, N252, K253, E255, F256, F257⟩ := hQ251
    have Z258 : n0 ≤ T248.heap.size := Nat.le_trans Z243 K253.1
    have N254 := Fr.app N239 N252
    show own_Go p e below s 16 128 (own_Q0 n0) (T248.setTop (mkF m 50 #[.val (.int p1), .val (.int p2), .val (.ref a40), .val (.int (4 : Int32)), .val (.int ((p2 &&& (2147483647 : Int32)) % (16777217 : Int32)))] [.int (own_f5 a40 ((0 : Int32) + ((p2 &&& (2147483647 : Int32)) % (16777217 : Int32))) ((0 : Int32) + (1 : Int32)))]))
    refine own_if0M X250 hx (hb hby at_50) (cd := .ne) (x := own_f5 a40 ((0 : Int32) + ((p2 &&& (2147483647 : Int32)) % (16777217 : Int32))) ((0 : Int32) + (1 : Int32))) (pt := 55) (q := 53) (by decide) (by decide) rfl rfl (fun _ => ?_) (fun h => False.elim ((by unfold own_f5; decide : ¬ ((own_f5 a40 ((0 : Int32) + ((p2 &&& (2147483647 : Int32)) % (16777217 : Int32))) ((0 : Int32) + (1 : Int32))) = (0 : Int32))) h))
    refine own_iloadN X250 hx (hb hby at_55) (q := 56) rfl rfl ?_
    refine own_iconst X250 hx (v := (2 : Int32)) (hb hby at_56) (q := 57) rfl rfl ?_
    refine own_icmpM X250 hx (hb hby at_57) (cd := .le) (x := (4 : Int32)) (y := (2 : Int32)) (pt := 69) (q := 60) (by decide) (by decide) rfl rfl (fun h => False.elim (h ((by decide) : (2 : Int32) < (4 : Int32)))) (fun _ => ?_)
    refine own_aloadN X250 hx (hb hby at_60) (q := 61) rfl rfl rfl ?_
    refine own_callV X250 hx hZ hown (hw _ (List.mem_of_getElem? (i := 25) rfl)) (hw _ (List.mem_of_getElem? (i := 26) rfl)) (hw _ (List.mem_of_getElem? (i := 28) rfl)) (hw _ (List.mem_of_getElem? (i := 28) rfl)) (hw _ (List.mem_of_getElem? (i := 27) rfl)) (hw _ (List.mem_of_getElem? (i := 2) rfl)) (hw _ (List.mem_of_getElem? (i := 29) rfl)) E255 (by decide) (rm5 l Z a0 hw [] a40 ((0 : Int32) + ((p2 &&& (2147483647 : Int32)) % (16777217 : Int32))) (((0 : Int32) + (1 : Int32)) + (1 : Int32)) T248.heap n0 E255 F256 F257 Z45 ) own_pd3 rfl rfl (by rw [hml]; rfl) (argsL := []) (st := []) rfl (W := 0) (Nat.le_of_eq rfl) (by decide) (by decide) (by decide) (by decide) (hb hby at_61) (q := 64) rfl (fun v262 T263 L264 X265 hQ266 => ?_)
    obtain ⟨rfl, N267, K268, E270, F271, F272⟩ := hQ266
    have Z273 : n0 ≤ T263.heap.size := Nat.le_trans Z258 K268.1
    have N269 := Fr.app N254 N267
    show own_Go p e below s 16 128 (own_Q0 n0) (T263.setTop (mkF m 64 #[.val (.int p1), .val (.int p2), .val (.ref a40), .val (.int (4 : Int32)), .val (.int ((p2 &&& (2147483647 : Int32)) % (16777217 : Int32)))] [.int (own_f5 a40 ((0 : Int32) + ((p2 &&& (2147483647 : Int32)) % (16777217 : Int32))) (((0 : Int32) + (1 : Int32)) + (1 : Int32)))]))
    refine own_if0M X265 hx (hb hby at_64) (cd := .ne) (x := own_f5 a40 ((0 : Int32) + ((p2 &&& (2147483647 : Int32)) % (16777217 : Int32))) (((0 : Int32) + (1 : Int32)) + (1 : Int32))) (pt := 69) (q := 67) (by decide) (by decide) rfl rfl (fun _ => ?_) (fun h => False.elim ((by unfold own_f5; decide : ¬ ((own_f5 a40 ((0 : Int32) + ((p2 &&& (2147483647 : Int32)) % (16777217 : Int32))) (((0 : Int32) + (1 : Int32)) + (1 : Int32))) = (0 : Int32))) h))
    refine own_iloadN X265 hx (hb hby at_69) (q := 70) rfl rfl ?_
    refine own_iconst X265 hx (v := (3 : Int32)) (hb hby at_70) (q := 71) rfl rfl ?_
    refine own_icmpM X265 hx (hb hby at_71) (cd := .le) (x := (4 : Int32)) (y := (3 : Int32)) (pt := 83) (q := 74) (by decide) (by decide) rfl rfl (fun h => False.elim (h ((by decide) : (3 : Int32) < (4 : Int32)))) (fun _ => ?_)
    refine own_aloadN X265 hx (hb hby at_74) (q := 75) rfl rfl rfl ?_
    refine own_callV X265 hx hZ hown (hw _ (List.mem_of_getElem? (i := 25) rfl)) (hw _ (List.mem_of_getElem? (i := 26) rfl)) (hw _ (List.mem_of_getElem? (i := 28) rfl)) (hw _ (List.mem_of_getElem? (i := 28) rfl)) (hw _ (List.mem_of_getElem? (i := 27) rfl)) (hw _ (List.mem_of_getElem? (i := 2) rfl)) (hw _ (List.mem_of_getElem? (i := 29) rfl)) E270 (by decide) (rm5 l Z a0 hw [] a40 ((0 : Int32) + ((p2 &&& (2147483647 : Int32)) % (16777217 : Int32))) ((((0 : Int32) + (1 : Int32)) + (1 : Int32)) + (1 : Int32)) T263.heap n0 E270 F271 F272 Z45 ) own_pd3 rfl rfl (by rw [hml]; rfl) (argsL := []) (st := []) rfl (W := 0) (Nat.le_of_eq rfl) (by decide) (by decide) (by decide) (by decide) (hb hby at_75) (q := 78) rfl (fun v277 T278 L279 X280 hQ281 => ?_)
    obtain ⟨rfl, N282, K283, E285, F286, F287⟩ := hQ281
    have Z288 : n0 ≤ T278.heap.size := Nat.le_trans Z273 K283.1
    have N284 := Fr.app N269 N282
    show own_Go p e below s 16 128 (own_Q0 n0) (T278.setTop (mkF m 78 #[.val (.int p1), .val (.int p2), .val (.ref a40), .val (.int (4 : Int32)), .val (.int ((p2 &&& (2147483647 : Int32)) % (16777217 : Int32)))] [.int (own_f5 a40 ((0 : Int32) + ((p2 &&& (2147483647 : Int32)) % (16777217 : Int32))) ((((0 : Int32) + (1 : Int32)) + (1 : Int32)) + (1 : Int32)))]))
    refine own_if0M X280 hx (hb hby at_78) (cd := .ne) (x := own_f5 a40 ((0 : Int32) + ((p2 &&& (2147483647 : Int32)) % (16777217 : Int32))) ((((0 : Int32) + (1 : Int32)) + (1 : Int32)) + (1 : Int32))) (pt := 83) (q := 81) (by decide) (by decide) rfl rfl (fun _ => ?_) (fun h => False.elim ((by unfold own_f5; decide : ¬ ((own_f5 a40 ((0 : Int32) + ((p2 &&& (2147483647 : Int32)) % (16777217 : Int32))) ((((0 : Int32) + (1 : Int32)) + (1 : Int32)) + (1 : Int32))) = (0 : Int32))) h))
    refine own_iloadN X280 hx (hb hby at_83) (q := 84) rfl rfl ?_
    refine own_iconst X280 hx (v := (4 : Int32)) (hb hby at_84) (q := 85) rfl rfl ?_
    refine own_icmpM X280 hx (hb hby at_85) (cd := .le) (x := (4 : Int32)) (y := (4 : Int32)) (pt := 97) (q := 88) (by decide) (by decide) rfl rfl (fun _ => ?_) (fun h => False.elim (((by decide) : ¬ ((4 : Int32) < (4 : Int32))) h))
    refine own_iloadN X280 hx (hb hby at_97) (q := 98) rfl rfl ?_
    refine own_iconst X280 hx (v := (5 : Int32)) (hb hby at_98) (q := 99) rfl rfl ?_
    refine own_icmpM X280 hx (hb hby at_99) (cd := .le) (x := (4 : Int32)) (y := (5 : Int32)) (pt := 111) (q := 102) (by decide) (by decide) rfl rfl (fun _ => ?_) (fun h => False.elim (((by decide) : ¬ ((5 : Int32) < (4 : Int32))) h))
    refine own_iloadN X280 hx (hb hby at_111) (q := 112) rfl rfl ?_
    refine own_bipush X280 hx (v := (6 : Int32)) (hb hby at_112) (q := 114) rfl rfl ?_
    refine own_icmpM X280 hx (hb hby at_114) (cd := .le) (x := (4 : Int32)) (y := (6 : Int32)) (pt := 126) (q := 117) (by decide) (by decide) rfl rfl (fun _ => ?_) (fun h => False.elim (((by decide) : ¬ ((6 : Int32) < (4 : Int32))) h))
    refine own_aloadN X280 hx (hb hby at_126) (q := 127) rfl rfl rfl ?_
    refine own_callVP X280 hx hZ hown (hw _ (List.mem_of_getElem? (i := 18) rfl)) (hw _ (List.mem_of_getElem? (i := 19) rfl)) (hw _ (List.mem_of_getElem? (i := 21) rfl)) (hw _ (List.mem_of_getElem? (i := 21) rfl)) (hw _ (List.mem_of_getElem? (i := 20) rfl)) (hw _ (List.mem_of_getElem? (i := 2) rfl)) (hw _ (List.mem_of_getElem? (i := 22) rfl)) E285 (by decide) (rm4 l Z a0 hw [] a40 ((0 : Int32) + ((p2 &&& (2147483647 : Int32)) % (16777217 : Int32))) T278.heap F286) own_pd2 rfl rfl (by rw [hml]; rfl) (argsL := []) (st := []) rfl (W := 0) (Nat.le_of_eq rfl) (by decide) (by decide) (by decide) (by decide) (hb hby at_127) (q := 130) rfl (fun T289 X290 e291 => ?_)
    refine own_ldc X290 hx hZ hown (hw _ (List.mem_of_getElem? (i := 24) rfl)) (hb hby at_130) (q := 132) rfl ?_
    refine own_iload X290 hx (hb hby at_132) (q := 134) rfl rfl ?_
    refine own_isub X290 hx (hb hby at_134) (q := 135) rfl ?_
    refine own_icmpM X290 hx (hb hby at_135) (cd := .ne) (x := own_f4 ((0 : Int32) + ((p2 &&& (2147483647 : Int32)) % (16777217 : Int32)))) (y := (16777216 : Int32) - ((p2 &&& (2147483647 : Int32)) % (16777217 : Int32))) (pt := 142) (q := 138) (by decide) (by decide) rfl rfl (fun h => False.elim (h (own_left _ : (own_f4 ((0 : Int32) + ((p2 &&& (2147483647 : Int32)) % (16777217 : Int32)))) = ((16777216 : Int32) - ((p2 &&& (2147483647 : Int32)) % (16777217 : Int32)))))) (fun _ => ?_)
    refine own_iconst X290 hx (v := (1 : Int32)) (hb hby at_138) (q := 139) rfl rfl ?_
    refine own_goto X290 hx (hb hby at_139) (q := 143) (by decide) (by decide) ?_
    refine own_retN X290 hx hlk (t := .boolean) (by simp) Bd.returns (hb hby at_143) ?_ (by decide) (by decide)
    exact ⟨rfl, N284⟩
  · rw [hk]
    refine own_iloadN X50 hx (hb hby at_13) (q := 14) rfl rfl ?_
    refine own_ldc X50 hx hZ hown (hw _ (List.mem_of_getElem? (i := 9) rfl)) (hb hby at_14) (q := 16) rfl ?_
    refine own_iand X50 hx (hb hby at_16) (q := 17) rfl ?_
    refine own_ldc X50 hx hZ hown (hw _ (List.mem_of_getElem? (i := 10) rfl)) (hb hby at_17) (q := 19) rfl ?_
    refine own_irem X50 hx (hb hby at_19) (q := 20) rfl (by decide) ?_
    refine own_istore (L' := #[.val (.int p1), .val (.int p2), .val (.ref a40), .val (.int (5 : Int32)), .val (.int ((p2 &&& (2147483647 : Int32)) % (16777217 : Int32)))]) X50 hx (hb hby at_20) (q := 22) rfl rfl ?_
    refine own_aloadN X50 hx (hb hby at_22) (q := 23) rfl rfl rfl ?_
    refine own_iload X50 hx (hb hby at_23) (q := 25) rfl rfl ?_
    refine own_callV X50 hx hZ hown (hw _ (List.mem_of_getElem? (i := 11) rfl)) (hw _ (List.mem_of_getElem? (i := 12) rfl)) (hw _ (List.mem_of_getElem? (i := 14) rfl)) (hw _ (List.mem_of_getElem? (i := 14) rfl)) (hw _ (List.mem_of_getElem? (i := 13) rfl)) (hw _ (List.mem_of_getElem? (i := 2) rfl)) (hw _ (List.mem_of_getElem? (i := 15) rfl)) A43 (by decide) (rm3 l Z a0 hw [] a40 ((p2 &&& (2147483647 : Int32)) % (16777217 : Int32)) (0 : Int32) (0 : Int32) h39 n0 A43 F47 F48 Z45 ) own_pd1 rfl e51 (by rw [hml]; rfl) (argsL := [.int ((p2 &&& (2147483647 : Int32)) % (16777217 : Int32))]) (st := []) rfl (W := 0) (Nat.le_of_eq rfl) (by decide) (by decide) (by decide) (by decide) (hb hby at_25) (q := 28) rfl (fun v295 T296 L297 X298 hQ299 => ?_)
    obtain ⟨rfl, N300, K301, E303, F304, F305⟩ := hQ299
    have Z306 : n0 ≤ T296.heap.size := Nat.le_trans Z46 K301.1
    have N302 := Fr.app N0 N300
    show own_Go p e below s 16 128 (own_Q0 n0) (T296.setTop (mkF m 28 #[.val (.int p1), .val (.int p2), .val (.ref a40), .val (.int (5 : Int32)), .val (.int ((p2 &&& (2147483647 : Int32)) % (16777217 : Int32)))] []))
    refine own_iloadN X298 hx (hb hby at_28) (q := 29) rfl rfl ?_
    refine own_if0M X298 hx (hb hby at_29) (cd := .le) (x := (5 : Int32)) (pt := 41) (q := 32) (by decide) (by decide) rfl rfl (fun h => False.elim (h ((by decide) : (0 : Int32) < (5 : Int32)))) (fun _ => ?_)
    refine own_aloadN X298 hx (hb hby at_32) (q := 33) rfl rfl rfl ?_
    refine own_callV X298 hx hZ hown (hw _ (List.mem_of_getElem? (i := 25) rfl)) (hw _ (List.mem_of_getElem? (i := 26) rfl)) (hw _ (List.mem_of_getElem? (i := 28) rfl)) (hw _ (List.mem_of_getElem? (i := 28) rfl)) (hw _ (List.mem_of_getElem? (i := 27) rfl)) (hw _ (List.mem_of_getElem? (i := 2) rfl)) (hw _ (List.mem_of_getElem? (i := 29) rfl)) E303 (by decide) (rm5 l Z a0 hw [] a40 ((0 : Int32) + ((p2 &&& (2147483647 : Int32)) % (16777217 : Int32))) (0 : Int32) T296.heap n0 E303 F304 F305 Z45 ) own_pd3 rfl rfl (by rw [hml]; rfl) (argsL := []) (st := []) rfl (W := 0) (Nat.le_of_eq rfl) (by decide) (by decide) (by decide) (by decide) (hb hby at_33) (q := 36) rfl (fun v310 T311 L312 X313 hQ314 => ?_)
    obtain ⟨rfl, N315, K316, E318, F319, F320⟩ := hQ314
    have Z321 : n0 ≤ T311.heap.size := Nat.le_trans Z306 K316.1
    have N317 := Fr.app N302 N315
    show own_Go p e below s 16 128 (own_Q0 n0) (T311.setTop (mkF m 36 #[.val (.int p1), .val (.int p2), .val (.ref a40), .val (.int (5 : Int32)), .val (.int ((p2 &&& (2147483647 : Int32)) % (16777217 : Int32)))] [.int (own_f5 a40 ((0 : Int32) + ((p2 &&& (2147483647 : Int32)) % (16777217 : Int32))) (0 : Int32))]))
    refine own_if0M X313 hx (hb hby at_36) (cd := .ne) (x := own_f5 a40 ((0 : Int32) + ((p2 &&& (2147483647 : Int32)) % (16777217 : Int32))) (0 : Int32)) (pt := 41) (q := 39) (by decide) (by decide) rfl rfl (fun _ => ?_) (fun h => False.elim ((by unfold own_f5; decide : ¬ ((own_f5 a40 ((0 : Int32) + ((p2 &&& (2147483647 : Int32)) % (16777217 : Int32))) (0 : Int32)) = (0 : Int32))) h))
    refine own_iloadN X313 hx (hb hby at_41) (q := 42) rfl rfl ?_
    refine own_iconst X313 hx (v := (1 : Int32)) (hb hby at_42) (q := 43) rfl rfl ?_
    refine own_icmpM X313 hx (hb hby at_43) (cd := .le) (x := (5 : Int32)) (y := (1 : Int32)) (pt := 55) (q := 46) (by decide) (by decide) rfl rfl (fun h => False.elim (h ((by decide) : (1 : Int32) < (5 : Int32)))) (fun _ => ?_)
    refine own_aloadN X313 hx (hb hby at_46) (q := 47) rfl rfl rfl ?_
    refine own_callV X313 hx hZ hown (hw _ (List.mem_of_getElem? (i := 25) rfl)) (hw _ (List.mem_of_getElem? (i := 26) rfl)) (hw _ (List.mem_of_getElem? (i := 28) rfl)) (hw _ (List.mem_of_getElem? (i := 28) rfl)) (hw _ (List.mem_of_getElem? (i := 27) rfl)) (hw _ (List.mem_of_getElem? (i := 2) rfl)) (hw _ (List.mem_of_getElem? (i := 29) rfl)) E318 (by decide) (rm5 l Z a0 hw [] a40 ((0 : Int32) + ((p2 &&& (2147483647 : Int32)) % (16777217 : Int32))) ((0 : Int32) + (1 : Int32)) T311.heap n0 E318 F319 F320 Z45 ) own_pd3 rfl rfl (by rw [hml]; rfl) (argsL := []) (st := []) rfl (W := 0) (Nat.le_of_eq rfl) (by decide) (by decide) (by decide) (by decide) (hb hby at_47) (q := 50) rfl (fun v325 T326 L327 X328 hQ329 => ?_)
    obtain ⟨rfl, N330, K331, E333, F334, F335⟩ := hQ329
    have Z336 : n0 ≤ T326.heap.size := Nat.le_trans Z321 K331.1
    have N332 := Fr.app N317 N330
    show own_Go p e below s 16 128 (own_Q0 n0) (T326.setTop (mkF m 50 #[.val (.int p1), .val (.int p2), .val (.ref a40), .val (.int (5 : Int32)), .val (.int ((p2 &&& (2147483647 : Int32)) % (16777217 : Int32)))] [.int (own_f5 a40 ((0 : Int32) + ((p2 &&& (2147483647 : Int32)) % (16777217 : Int32))) ((0 : Int32) + (1 : Int32)))]))
    refine own_if0M X328 hx (hb hby at_50) (cd := .ne) (x := own_f5 a40 ((0 : Int32) + ((p2 &&& (2147483647 : Int32)) % (16777217 : Int32))) ((0 : Int32) + (1 : Int32))) (pt := 55) (q := 53) (by decide) (by decide) rfl rfl (fun _ => ?_) (fun h => False.elim ((by unfold own_f5; decide : ¬ ((own_f5 a40 ((0 : Int32) + ((p2 &&& (2147483647 : Int32)) % (16777217 : Int32))) ((0 : Int32) + (1 : Int32))) = (0 : Int32))) h))
    refine own_iloadN X328 hx (hb hby at_55) (q := 56) rfl rfl ?_
    refine own_iconst X328 hx (v := (2 : Int32)) (hb hby at_56) (q := 57) rfl rfl ?_
    refine own_icmpM X328 hx (hb hby at_57) (cd := .le) (x := (5 : Int32)) (y := (2 : Int32)) (pt := 69) (q := 60) (by decide) (by decide) rfl rfl (fun h => False.elim (h ((by decide) : (2 : Int32) < (5 : Int32)))) (fun _ => ?_)
    refine own_aloadN X328 hx (hb hby at_60) (q := 61) rfl rfl rfl ?_
    refine own_callV X328 hx hZ hown (hw _ (List.mem_of_getElem? (i := 25) rfl)) (hw _ (List.mem_of_getElem? (i := 26) rfl)) (hw _ (List.mem_of_getElem? (i := 28) rfl)) (hw _ (List.mem_of_getElem? (i := 28) rfl)) (hw _ (List.mem_of_getElem? (i := 27) rfl)) (hw _ (List.mem_of_getElem? (i := 2) rfl)) (hw _ (List.mem_of_getElem? (i := 29) rfl)) E333 (by decide) (rm5 l Z a0 hw [] a40 ((0 : Int32) + ((p2 &&& (2147483647 : Int32)) % (16777217 : Int32))) (((0 : Int32) + (1 : Int32)) + (1 : Int32)) T326.heap n0 E333 F334 F335 Z45 ) own_pd3 rfl rfl (by rw [hml]; rfl) (argsL := []) (st := []) rfl (W := 0) (Nat.le_of_eq rfl) (by decide) (by decide) (by decide) (by decide) (hb hby at_61) (q := 64) rfl (fun v340 T341 L342 X343 hQ344 => ?_)
    obtain ⟨rfl, N345, K346, E348, F349, F350⟩ := hQ344
    have Z351 : n0 ≤ T341.heap.size := Nat.le_trans Z336 K346.1
    have N347 := Fr.app N332 N345
    show own_Go p e below s 16 128 (own_Q0 n0) (T341.setTop (mkF m 64 #[.val (.int p1), .val (.int p2), .val (.ref a40), .val (.int (5 : Int32)), .val (.int ((p2 &&& (2147483647 : Int32)) % (16777217 : Int32)))] [.int (own_f5 a40 ((0 : Int32) + ((p2 &&& (2147483647 : Int32)) % (16777217 : Int32))) (((0 : Int32) + (1 : Int32)) + (1 : Int32)))]))
    refine own_if0M X343 hx (hb hby at_64) (cd := .ne) (x := own_f5 a40 ((0 : Int32) + ((p2 &&& (2147483647 : Int32)) % (16777217 : Int32))) (((0 : Int32) + (1 : Int32)) + (1 : Int32))) (pt := 69) (q := 67) (by decide) (by decide) rfl rfl (fun _ => ?_) (fun h => False.elim ((by unfold own_f5; decide : ¬ ((own_f5 a40 ((0 : Int32) + ((p2 &&& (2147483647 : Int32)) % (16777217 : Int32))) (((0 : Int32) + (1 : Int32)) + (1 : Int32))) = (0 : Int32))) h))
    refine own_iloadN X343 hx (hb hby at_69) (q := 70) rfl rfl ?_
    refine own_iconst X343 hx (v := (3 : Int32)) (hb hby at_70) (q := 71) rfl rfl ?_
    refine own_icmpM X343 hx (hb hby at_71) (cd := .le) (x := (5 : Int32)) (y := (3 : Int32)) (pt := 83) (q := 74) (by decide) (by decide) rfl rfl (fun h => False.elim (h ((by decide) : (3 : Int32) < (5 : Int32)))) (fun _ => ?_)
    refine own_aloadN X343 hx (hb hby at_74) (q := 75) rfl rfl rfl ?_
    refine own_callV X343 hx hZ hown (hw _ (List.mem_of_getElem? (i := 25) rfl)) (hw _ (List.mem_of_getElem? (i := 26) rfl)) (hw _ (List.mem_of_getElem? (i := 28) rfl)) (hw _ (List.mem_of_getElem? (i := 28) rfl)) (hw _ (List.mem_of_getElem? (i := 27) rfl)) (hw _ (List.mem_of_getElem? (i := 2) rfl)) (hw _ (List.mem_of_getElem? (i := 29) rfl)) E348 (by decide) (rm5 l Z a0 hw [] a40 ((0 : Int32) + ((p2 &&& (2147483647 : Int32)) % (16777217 : Int32))) ((((0 : Int32) + (1 : Int32)) + (1 : Int32)) + (1 : Int32)) T341.heap n0 E348 F349 F350 Z45 ) own_pd3 rfl rfl (by rw [hml]; rfl) (argsL := []) (st := []) rfl (W := 0) (Nat.le_of_eq rfl) (by decide) (by decide) (by decide) (by decide) (hb hby at_75) (q := 78) rfl (fun v355 T356 L357 X358 hQ359 => ?_)
    obtain ⟨rfl, N360, K361, E363, F364, F365⟩ := hQ359
    have Z366 : n0 ≤ T356.heap.size := Nat.le_trans Z351 K361.1
    have N362 := Fr.app N347 N360
    show own_Go p e below s 16 128 (own_Q0 n0) (T356.setTop (mkF m 78 #[.val (.int p1), .val (.int p2), .val (.ref a40), .val (.int (5 : Int32)), .val (.int ((p2 &&& (2147483647 : Int32)) % (16777217 : Int32)))] [.int (own_f5 a40 ((0 : Int32) + ((p2 &&& (2147483647 : Int32)) % (16777217 : Int32))) ((((0 : Int32) + (1 : Int32)) + (1 : Int32)) + (1 : Int32)))]))
    refine own_if0M X358 hx (hb hby at_78) (cd := .ne) (x := own_f5 a40 ((0 : Int32) + ((p2 &&& (2147483647 : Int32)) % (16777217 : Int32))) ((((0 : Int32) + (1 : Int32)) + (1 : Int32)) + (1 : Int32))) (pt := 83) (q := 81) (by decide) (by decide) rfl rfl (fun _ => ?_) (fun h => False.elim ((by unfold own_f5; decide : ¬ ((own_f5 a40 ((0 : Int32) + ((p2 &&& (2147483647 : Int32)) % (16777217 : Int32))) ((((0 : Int32) + (1 : Int32)) + (1 : Int32)) + (1 : Int32))) = (0 : Int32))) h))
    refine own_iloadN X358 hx (hb hby at_83) (q := 84) rfl rfl ?_
    refine own_iconst X358 hx (v := (4 : Int32)) (hb hby at_84) (q := 85) rfl rfl ?_
    refine own_icmpM X358 hx (hb hby at_85) (cd := .le) (x := (5 : Int32)) (y := (4 : Int32)) (pt := 97) (q := 88) (by decide) (by decide) rfl rfl (fun h => False.elim (h ((by decide) : (4 : Int32) < (5 : Int32)))) (fun _ => ?_)
    refine own_aloadN X358 hx (hb hby at_88) (q := 89) rfl rfl rfl ?_
    refine own_callV X358 hx hZ hown (hw _ (List.mem_of_getElem? (i := 25) rfl)) (hw _ (List.mem_of_getElem? (i := 26) rfl)) (hw _ (List.mem_of_getElem? (i := 28) rfl)) (hw _ (List.mem_of_getElem? (i := 28) rfl)) (hw _ (List.mem_of_getElem? (i := 27) rfl)) (hw _ (List.mem_of_getElem? (i := 2) rfl)) (hw _ (List.mem_of_getElem? (i := 29) rfl)) E363 (by decide) (rm5 l Z a0 hw [] a40 ((0 : Int32) + ((p2 &&& (2147483647 : Int32)) % (16777217 : Int32))) (((((0 : Int32) + (1 : Int32)) + (1 : Int32)) + (1 : Int32)) + (1 : Int32)) T356.heap n0 E363 F364 F365 Z45 ) own_pd3 rfl rfl (by rw [hml]; rfl) (argsL := []) (st := []) rfl (W := 0) (Nat.le_of_eq rfl) (by decide) (by decide) (by decide) (by decide) (hb hby at_89) (q := 92) rfl (fun v370 T371 L372 X373 hQ374 => ?_)
    obtain ⟨rfl, N375, K376, E378, F379, F380⟩ := hQ374
    have Z381 : n0 ≤ T371.heap.size := Nat.le_trans Z366 K376.1
    have N377 := Fr.app N362 N375
    show own_Go p e below s 16 128 (own_Q0 n0) (T371.setTop (mkF m 92 #[.val (.int p1), .val (.int p2), .val (.ref a40), .val (.int (5 : Int32)), .val (.int ((p2 &&& (2147483647 : Int32)) % (16777217 : Int32)))] [.int (own_f5 a40 ((0 : Int32) + ((p2 &&& (2147483647 : Int32)) % (16777217 : Int32))) (((((0 : Int32) + (1 : Int32)) + (1 : Int32)) + (1 : Int32)) + (1 : Int32)))]))
    refine own_if0M X373 hx (hb hby at_92) (cd := .ne) (x := own_f5 a40 ((0 : Int32) + ((p2 &&& (2147483647 : Int32)) % (16777217 : Int32))) (((((0 : Int32) + (1 : Int32)) + (1 : Int32)) + (1 : Int32)) + (1 : Int32))) (pt := 97) (q := 95) (by decide) (by decide) rfl rfl (fun _ => ?_) (fun h => False.elim ((by unfold own_f5; decide : ¬ ((own_f5 a40 ((0 : Int32) + ((p2 &&& (2147483647 : Int32)) % (16777217 : Int32))) (((((0 : Int32) + (1 : Int32)) + (1 : Int32)) + (1 : Int32)) + (1 : Int32))) = (0 : Int32))) h))
    refine own_iloadN X373 hx (hb hby at_97) (q := 98) rfl rfl ?_
    refine own_iconst X373 hx (v := (5 : Int32)) (hb hby at_98) (q := 99) rfl rfl ?_
    refine own_icmpM X373 hx (hb hby at_99) (cd := .le) (x := (5 : Int32)) (y := (5 : Int32)) (pt := 111) (q := 102) (by decide) (by decide) rfl rfl (fun _ => ?_) (fun h => False.elim (((by decide) : ¬ ((5 : Int32) < (5 : Int32))) h))
    refine own_iloadN X373 hx (hb hby at_111) (q := 112) rfl rfl ?_
    refine own_bipush X373 hx (v := (6 : Int32)) (hb hby at_112) (q := 114) rfl rfl ?_
    refine own_icmpM X373 hx (hb hby at_114) (cd := .le) (x := (5 : Int32)) (y := (6 : Int32)) (pt := 126) (q := 117) (by decide) (by decide) rfl rfl (fun _ => ?_) (fun h => False.elim (((by decide) : ¬ ((6 : Int32) < (5 : Int32))) h))
    refine own_aloadN X373 hx (hb hby at_126) (q := 127) rfl rfl rfl ?_
    refine own_callVP X373 hx hZ hown (hw _ (List.mem_of_getElem? (i := 18) rfl)) (hw _ (List.mem_of_getElem? (i := 19) rfl)) (hw _ (List.mem_of_getElem? (i := 21) rfl)) (hw _ (List.mem_of_getElem? (i := 21) rfl)) (hw _ (List.mem_of_getElem? (i := 20) rfl)) (hw _ (List.mem_of_getElem? (i := 2) rfl)) (hw _ (List.mem_of_getElem? (i := 22) rfl)) E378 (by decide) (rm4 l Z a0 hw [] a40 ((0 : Int32) + ((p2 &&& (2147483647 : Int32)) % (16777217 : Int32))) T371.heap F379) own_pd2 rfl rfl (by rw [hml]; rfl) (argsL := []) (st := []) rfl (W := 0) (Nat.le_of_eq rfl) (by decide) (by decide) (by decide) (by decide) (hb hby at_127) (q := 130) rfl (fun T382 X383 e384 => ?_)
    refine own_ldc X383 hx hZ hown (hw _ (List.mem_of_getElem? (i := 24) rfl)) (hb hby at_130) (q := 132) rfl ?_
    refine own_iload X383 hx (hb hby at_132) (q := 134) rfl rfl ?_
    refine own_isub X383 hx (hb hby at_134) (q := 135) rfl ?_
    refine own_icmpM X383 hx (hb hby at_135) (cd := .ne) (x := own_f4 ((0 : Int32) + ((p2 &&& (2147483647 : Int32)) % (16777217 : Int32)))) (y := (16777216 : Int32) - ((p2 &&& (2147483647 : Int32)) % (16777217 : Int32))) (pt := 142) (q := 138) (by decide) (by decide) rfl rfl (fun h => False.elim (h (own_left _ : (own_f4 ((0 : Int32) + ((p2 &&& (2147483647 : Int32)) % (16777217 : Int32)))) = ((16777216 : Int32) - ((p2 &&& (2147483647 : Int32)) % (16777217 : Int32)))))) (fun _ => ?_)
    refine own_iconst X383 hx (v := (1 : Int32)) (hb hby at_138) (q := 139) rfl rfl ?_
    refine own_goto X383 hx (hb hby at_139) (q := 143) (by decide) (by decide) ?_
    refine own_retN X383 hx hlk (t := .boolean) (by simp) Bd.returns (hb hby at_143) ?_ (by decide) (by decide)
    exact ⟨rfl, N377⟩
  · rw [hk]
    refine own_iloadN X50 hx (hb hby at_13) (q := 14) rfl rfl ?_
    refine own_ldc X50 hx hZ hown (hw _ (List.mem_of_getElem? (i := 9) rfl)) (hb hby at_14) (q := 16) rfl ?_
    refine own_iand X50 hx (hb hby at_16) (q := 17) rfl ?_
    refine own_ldc X50 hx hZ hown (hw _ (List.mem_of_getElem? (i := 10) rfl)) (hb hby at_17) (q := 19) rfl ?_
    refine own_irem X50 hx (hb hby at_19) (q := 20) rfl (by decide) ?_
    refine own_istore (L' := #[.val (.int p1), .val (.int p2), .val (.ref a40), .val (.int (6 : Int32)), .val (.int ((p2 &&& (2147483647 : Int32)) % (16777217 : Int32)))]) X50 hx (hb hby at_20) (q := 22) rfl rfl ?_
    refine own_aloadN X50 hx (hb hby at_22) (q := 23) rfl rfl rfl ?_
    refine own_iload X50 hx (hb hby at_23) (q := 25) rfl rfl ?_
    refine own_callV X50 hx hZ hown (hw _ (List.mem_of_getElem? (i := 11) rfl)) (hw _ (List.mem_of_getElem? (i := 12) rfl)) (hw _ (List.mem_of_getElem? (i := 14) rfl)) (hw _ (List.mem_of_getElem? (i := 14) rfl)) (hw _ (List.mem_of_getElem? (i := 13) rfl)) (hw _ (List.mem_of_getElem? (i := 2) rfl)) (hw _ (List.mem_of_getElem? (i := 15) rfl)) A43 (by decide) (rm3 l Z a0 hw [] a40 ((p2 &&& (2147483647 : Int32)) % (16777217 : Int32)) (0 : Int32) (0 : Int32) h39 n0 A43 F47 F48 Z45 ) own_pd1 rfl e51 (by rw [hml]; rfl) (argsL := [.int ((p2 &&& (2147483647 : Int32)) % (16777217 : Int32))]) (st := []) rfl (W := 0) (Nat.le_of_eq rfl) (by decide) (by decide) (by decide) (by decide) (hb hby at_25) (q := 28) rfl (fun v388 T389 L390 X391 hQ392 => ?_)
    obtain ⟨rfl, N393, K394, E396, F397, F398⟩ := hQ392
    have Z399 : n0 ≤ T389.heap.size := Nat.le_trans Z46 K394.1
    have N395 := Fr.app N0 N393
    show own_Go p e below s 16 128 (own_Q0 n0) (T389.setTop (mkF m 28 #[.val (.int p1), .val (.int p2), .val (.ref a40), .val (.int (6 : Int32)), .val (.int ((p2 &&& (2147483647 : Int32)) % (16777217 : Int32)))] []))
    refine own_iloadN X391 hx (hb hby at_28) (q := 29) rfl rfl ?_
    refine own_if0M X391 hx (hb hby at_29) (cd := .le) (x := (6 : Int32)) (pt := 41) (q := 32) (by decide) (by decide) rfl rfl (fun h => False.elim (h ((by decide) : (0 : Int32) < (6 : Int32)))) (fun _ => ?_)
    refine own_aloadN X391 hx (hb hby at_32) (q := 33) rfl rfl rfl ?_
    refine own_callV X391 hx hZ hown (hw _ (List.mem_of_getElem? (i := 25) rfl)) (hw _ (List.mem_of_getElem? (i := 26) rfl)) (hw _ (List.mem_of_getElem? (i := 28) rfl)) (hw _ (List.mem_of_getElem? (i := 28) rfl)) (hw _ (List.mem_of_getElem? (i := 27) rfl)) (hw _ (List.mem_of_getElem? (i := 2) rfl)) (hw _ (List.mem_of_getElem? (i := 29) rfl)) E396 (by decide) (rm5 l Z a0 hw [] a40 ((0 : Int32) + ((p2 &&& (2147483647 : Int32)) % (16777217 : Int32))) (0 : Int32) T389.heap n0 E396 F397 F398 Z45 ) own_pd3 rfl rfl (by rw [hml]; rfl) (argsL := []) (st := []) rfl (W := 0) (Nat.le_of_eq rfl) (by decide) (by decide) (by decide) (by decide) (hb hby at_33) (q := 36) rfl (fun v403 T404 L405 X406 hQ407 => ?_)
    obtain ⟨rfl, N408, K409, E411, F412, F413⟩ := hQ407
    have Z414 : n0 ≤ T404.heap.size := Nat.le_trans Z399 K409.1
    have N410 := Fr.app N395 N408
    show own_Go p e below s 16 128 (own_Q0 n0) (T404.setTop (mkF m 36 #[.val (.int p1), .val (.int p2), .val (.ref a40), .val (.int (6 : Int32)), .val (.int ((p2 &&& (2147483647 : Int32)) % (16777217 : Int32)))] [.int (own_f5 a40 ((0 : Int32) + ((p2 &&& (2147483647 : Int32)) % (16777217 : Int32))) (0 : Int32))]))
    refine own_if0M X406 hx (hb hby at_36) (cd := .ne) (x := own_f5 a40 ((0 : Int32) + ((p2 &&& (2147483647 : Int32)) % (16777217 : Int32))) (0 : Int32)) (pt := 41) (q := 39) (by decide) (by decide) rfl rfl (fun _ => ?_) (fun h => False.elim ((by unfold own_f5; decide : ¬ ((own_f5 a40 ((0 : Int32) + ((p2 &&& (2147483647 : Int32)) % (16777217 : Int32))) (0 : Int32)) = (0 : Int32))) h))
    refine own_iloadN X406 hx (hb hby at_41) (q := 42) rfl rfl ?_
    refine own_iconst X406 hx (v := (1 : Int32)) (hb hby at_42) (q := 43) rfl rfl ?_
    refine own_icmpM X406 hx (hb hby at_43) (cd := .le) (x := (6 : Int32)) (y := (1 : Int32)) (pt := 55) (q := 46) (by decide) (by decide) rfl rfl (fun h => False.elim (h ((by decide) : (1 : Int32) < (6 : Int32)))) (fun _ => ?_)
    refine own_aloadN X406 hx (hb hby at_46) (q := 47) rfl rfl rfl ?_
    refine own_callV X406 hx hZ hown (hw _ (List.mem_of_getElem? (i := 25) rfl)) (hw _ (List.mem_of_getElem? (i := 26) rfl)) (hw _ (List.mem_of_getElem? (i := 28) rfl)) (hw _ (List.mem_of_getElem? (i := 28) rfl)) (hw _ (List.mem_of_getElem? (i := 27) rfl)) (hw _ (List.mem_of_getElem? (i := 2) rfl)) (hw _ (List.mem_of_getElem? (i := 29) rfl)) E411 (by decide) (rm5 l Z a0 hw [] a40 ((0 : Int32) + ((p2 &&& (2147483647 : Int32)) % (16777217 : Int32))) ((0 : Int32) + (1 : Int32)) T404.heap n0 E411 F412 F413 Z45 ) own_pd3 rfl rfl (by rw [hml]; rfl) (argsL := []) (st := []) rfl (W := 0) (Nat.le_of_eq rfl) (by decide) (by decide) (by decide) (by decide) (hb hby at_47) (q := 50) rfl (fun v418 T419 L420 X421 hQ422 => ?_)
    obtain ⟨rfl, N423, K424, E426, F427, F428⟩ := hQ422
    have Z429 : n0 ≤ T419.heap.size := Nat.le_trans Z414 K424.1
    have N425 := Fr.app N410 N423
    show own_Go p e below s 16 128 (own_Q0 n0) (T419.setTop (mkF m 50 #[.val (.int p1), .val (.int p2), .val (.ref a40), .val (.int (6 : Int32)), .val (.int ((p2 &&& (2147483647 : Int32)) % (16777217 : Int32)))] [.int (own_f5 a40 ((0 : Int32) + ((p2 &&& (2147483647 : Int32)) % (16777217 : Int32))) ((0 : Int32) + (1 : Int32)))]))
    refine own_if0M X421 hx (hb hby at_50) (cd := .ne) (x := own_f5 a40 ((0 : Int32) + ((p2 &&& (2147483647 : Int32)) % (16777217 : Int32))) ((0 : Int32) + (1 : Int32))) (pt := 55) (q := 53) (by decide) (by decide) rfl rfl (fun _ => ?_) (fun h => False.elim ((by unfold own_f5; decide : ¬ ((own_f5 a40 ((0 : Int32) + ((p2 &&& (2147483647 : Int32)) % (16777217 : Int32))) ((0 : Int32) + (1 : Int32))) = (0 : Int32))) h))
    refine own_iloadN X421 hx (hb hby at_55) (q := 56) rfl rfl ?_
    refine own_iconst X421 hx (v := (2 : Int32)) (hb hby at_56) (q := 57) rfl rfl ?_
    refine own_icmpM X421 hx (hb hby at_57) (cd := .le) (x := (6 : Int32)) (y := (2 : Int32)) (pt := 69) (q := 60) (by decide) (by decide) rfl rfl (fun h => False.elim (h ((by decide) : (2 : Int32) < (6 : Int32)))) (fun _ => ?_)
    refine own_aloadN X421 hx (hb hby at_60) (q := 61) rfl rfl rfl ?_
    refine own_callV X421 hx hZ hown (hw _ (List.mem_of_getElem? (i := 25) rfl)) (hw _ (List.mem_of_getElem? (i := 26) rfl)) (hw _ (List.mem_of_getElem? (i := 28) rfl)) (hw _ (List.mem_of_getElem? (i := 28) rfl)) (hw _ (List.mem_of_getElem? (i := 27) rfl)) (hw _ (List.mem_of_getElem? (i := 2) rfl)) (hw _ (List.mem_of_getElem? (i := 29) rfl)) E426 (by decide) (rm5 l Z a0 hw [] a40 ((0 : Int32) + ((p2 &&& (2147483647 : Int32)) % (16777217 : Int32))) (((0 : Int32) + (1 : Int32)) + (1 : Int32)) T419.heap n0 E426 F427 F428 Z45 ) own_pd3 rfl rfl (by rw [hml]; rfl) (argsL := []) (st := []) rfl (W := 0) (Nat.le_of_eq rfl) (by decide) (by decide) (by decide) (by decide) (hb hby at_61) (q := 64) rfl (fun v433 T434 L435 X436 hQ437 => ?_)
    obtain ⟨rfl, N438, K439, E441, F442, F443⟩ := hQ437
    have Z444 : n0 ≤ T434.heap.size := Nat.le_trans Z429 K439.1
    have N440 := Fr.app N425 N438
    show own_Go p e below s 16 128 (own_Q0 n0) (T434.setTop (mkF m 64 #[.val (.int p1), .val (.int p2), .val (.ref a40), .val (.int (6 : Int32)), .val (.int ((p2 &&& (2147483647 : Int32)) % (16777217 : Int32)))] [.int (own_f5 a40 ((0 : Int32) + ((p2 &&& (2147483647 : Int32)) % (16777217 : Int32))) (((0 : Int32) + (1 : Int32)) + (1 : Int32)))]))
    refine own_if0M X436 hx (hb hby at_64) (cd := .ne) (x := own_f5 a40 ((0 : Int32) + ((p2 &&& (2147483647 : Int32)) % (16777217 : Int32))) (((0 : Int32) + (1 : Int32)) + (1 : Int32))) (pt := 69) (q := 67) (by decide) (by decide) rfl rfl (fun _ => ?_) (fun h => False.elim ((by unfold own_f5; decide : ¬ ((own_f5 a40 ((0 : Int32) + ((p2 &&& (2147483647 : Int32)) % (16777217 : Int32))) (((0 : Int32) + (1 : Int32)) + (1 : Int32))) = (0 : Int32))) h))
    refine own_iloadN X436 hx (hb hby at_69) (q := 70) rfl rfl ?_
    refine own_iconst X436 hx (v := (3 : Int32)) (hb hby at_70) (q := 71) rfl rfl ?_
    refine own_icmpM X436 hx (hb hby at_71) (cd := .le) (x := (6 : Int32)) (y := (3 : Int32)) (pt := 83) (q := 74) (by decide) (by decide) rfl rfl (fun h => False.elim (h ((by decide) : (3 : Int32) < (6 : Int32)))) (fun _ => ?_)
    refine own_aloadN X436 hx (hb hby at_74) (q := 75) rfl rfl rfl ?_
    refine own_callV X436 hx hZ hown (hw _ (List.mem_of_getElem? (i := 25) rfl)) (hw _ (List.mem_of_getElem? (i := 26) rfl)) (hw _ (List.mem_of_getElem? (i := 28) rfl)) (hw _ (List.mem_of_getElem? (i := 28) rfl)) (hw _ (List.mem_of_getElem? (i := 27) rfl)) (hw _ (List.mem_of_getElem? (i := 2) rfl)) (hw _ (List.mem_of_getElem? (i := 29) rfl)) E441 (by decide) (rm5 l Z a0 hw [] a40 ((0 : Int32) + ((p2 &&& (2147483647 : Int32)) % (16777217 : Int32))) ((((0 : Int32) + (1 : Int32)) + (1 : Int32)) + (1 : Int32)) T434.heap n0 E441 F442 F443 Z45 ) own_pd3 rfl rfl (by rw [hml]; rfl) (argsL := []) (st := []) rfl (W := 0) (Nat.le_of_eq rfl) (by decide) (by decide) (by decide) (by decide) (hb hby at_75) (q := 78) rfl (fun v448 T449 L450 X451 hQ452 => ?_)
    obtain ⟨rfl, N453, K454, E456, F457, F458⟩ := hQ452
    have Z459 : n0 ≤ T449.heap.size := Nat.le_trans Z444 K454.1
    have N455 := Fr.app N440 N453
    show own_Go p e below s 16 128 (own_Q0 n0) (T449.setTop (mkF m 78 #[.val (.int p1), .val (.int p2), .val (.ref a40), .val (.int (6 : Int32)), .val (.int ((p2 &&& (2147483647 : Int32)) % (16777217 : Int32)))] [.int (own_f5 a40 ((0 : Int32) + ((p2 &&& (2147483647 : Int32)) % (16777217 : Int32))) ((((0 : Int32) + (1 : Int32)) + (1 : Int32)) + (1 : Int32)))]))
    refine own_if0M X451 hx (hb hby at_78) (cd := .ne) (x := own_f5 a40 ((0 : Int32) + ((p2 &&& (2147483647 : Int32)) % (16777217 : Int32))) ((((0 : Int32) + (1 : Int32)) + (1 : Int32)) + (1 : Int32))) (pt := 83) (q := 81) (by decide) (by decide) rfl rfl (fun _ => ?_) (fun h => False.elim ((by unfold own_f5; decide : ¬ ((own_f5 a40 ((0 : Int32) + ((p2 &&& (2147483647 : Int32)) % (16777217 : Int32))) ((((0 : Int32) + (1 : Int32)) + (1 : Int32)) + (1 : Int32))) = (0 : Int32))) h))
    refine own_iloadN X451 hx (hb hby at_83) (q := 84) rfl rfl ?_
    refine own_iconst X451 hx (v := (4 : Int32)) (hb hby at_84) (q := 85) rfl rfl ?_
    refine own_icmpM X451 hx (hb hby at_85) (cd := .le) (x := (6 : Int32)) (y := (4 : Int32)) (pt := 97) (q := 88) (by decide) (by decide) rfl rfl (fun h => False.elim (h ((by decide) : (4 : Int32) < (6 : Int32)))) (fun _ => ?_)
    refine own_aloadN X451 hx (hb hby at_88) (q := 89) rfl rfl rfl ?_
    refine own_callV X451 hx hZ hown (hw _ (List.mem_of_getElem? (i := 25) rfl)) (hw _ (List.mem_of_getElem? (i := 26) rfl)) (hw _ (List.mem_of_getElem? (i := 28) rfl)) (hw _ (List.mem_of_getElem? (i := 28) rfl)) (hw _ (List.mem_of_getElem? (i := 27) rfl)) (hw _ (List.mem_of_getElem? (i := 2) rfl)) (hw _ (List.mem_of_getElem? (i := 29) rfl)) E456 (by decide) (rm5 l Z a0 hw [] a40 ((0 : Int32) + ((p2 &&& (2147483647 : Int32)) % (16777217 : Int32))) (((((0 : Int32) + (1 : Int32)) + (1 : Int32)) + (1 : Int32)) + (1 : Int32)) T449.heap n0 E456 F457 F458 Z45 ) own_pd3 rfl rfl (by rw [hml]; rfl) (argsL := []) (st := []) rfl (W := 0) (Nat.le_of_eq rfl) (by decide) (by decide) (by decide) (by decide) (hb hby at_89) (q := 92) rfl (fun v463 T464 L465 X466 hQ467 => ?_)
    obtain ⟨rfl, N468, K469, E471, F472, F473⟩ := hQ467
    have Z474 : n0 ≤ T464.heap.size := Nat.le_trans Z459 K469.1
    have N470 := Fr.app N455 N468
    show own_Go p e below s 16 128 (own_Q0 n0) (T464.setTop (mkF m 92 #[.val (.int p1), .val (.int p2), .val (.ref a40), .val (.int (6 : Int32)), .val (.int ((p2 &&& (2147483647 : Int32)) % (16777217 : Int32)))] [.int (own_f5 a40 ((0 : Int32) + ((p2 &&& (2147483647 : Int32)) % (16777217 : Int32))) (((((0 : Int32) + (1 : Int32)) + (1 : Int32)) + (1 : Int32)) + (1 : Int32)))]))
    refine own_if0M X466 hx (hb hby at_92) (cd := .ne) (x := own_f5 a40 ((0 : Int32) + ((p2 &&& (2147483647 : Int32)) % (16777217 : Int32))) (((((0 : Int32) + (1 : Int32)) + (1 : Int32)) + (1 : Int32)) + (1 : Int32))) (pt := 97) (q := 95) (by decide) (by decide) rfl rfl (fun _ => ?_) (fun h => False.elim ((by unfold own_f5; decide : ¬ ((own_f5 a40 ((0 : Int32) + ((p2 &&& (2147483647 : Int32)) % (16777217 : Int32))) (((((0 : Int32) + (1 : Int32)) + (1 : Int32)) + (1 : Int32)) + (1 : Int32))) = (0 : Int32))) h))
    refine own_iloadN X466 hx (hb hby at_97) (q := 98) rfl rfl ?_
    refine own_iconst X466 hx (v := (5 : Int32)) (hb hby at_98) (q := 99) rfl rfl ?_
    refine own_icmpM X466 hx (hb hby at_99) (cd := .le) (x := (6 : Int32)) (y := (5 : Int32)) (pt := 111) (q := 102) (by decide) (by decide) rfl rfl (fun h => False.elim (h ((by decide) : (5 : Int32) < (6 : Int32)))) (fun _ => ?_)
    refine own_aloadN X466 hx (hb hby at_102) (q := 103) rfl rfl rfl ?_
    refine own_callV X466 hx hZ hown (hw _ (List.mem_of_getElem? (i := 25) rfl)) (hw _ (List.mem_of_getElem? (i := 26) rfl)) (hw _ (List.mem_of_getElem? (i := 28) rfl)) (hw _ (List.mem_of_getElem? (i := 28) rfl)) (hw _ (List.mem_of_getElem? (i := 27) rfl)) (hw _ (List.mem_of_getElem? (i := 2) rfl)) (hw _ (List.mem_of_getElem? (i := 29) rfl)) E471 (by decide) (rm5 l Z a0 hw [] a40 ((0 : Int32) + ((p2 &&& (2147483647 : Int32)) % (16777217 : Int32))) ((((((0 : Int32) + (1 : Int32)) + (1 : Int32)) + (1 : Int32)) + (1 : Int32)) + (1 : Int32)) T464.heap n0 E471 F472 F473 Z45 ) own_pd3 rfl rfl (by rw [hml]; rfl) (argsL := []) (st := []) rfl (W := 0) (Nat.le_of_eq rfl) (by decide) (by decide) (by decide) (by decide) (hb hby at_103) (q := 106) rfl (fun v478 T479 L480 X481 hQ482 => ?_)
    obtain ⟨rfl, N483, K484, E486, F487, F488⟩ := hQ482
    have Z489 : n0 ≤ T479.heap.size := Nat.le_trans Z474 K484.1
    have N485 := Fr.app N470 N483
    show own_Go p e below s 16 128 (own_Q0 n0) (T479.setTop (mkF m 106 #[.val (.int p1), .val (.int p2), .val (.ref a40), .val (.int (6 : Int32)), .val (.int ((p2 &&& (2147483647 : Int32)) % (16777217 : Int32)))] [.int (own_f5 a40 ((0 : Int32) + ((p2 &&& (2147483647 : Int32)) % (16777217 : Int32))) ((((((0 : Int32) + (1 : Int32)) + (1 : Int32)) + (1 : Int32)) + (1 : Int32)) + (1 : Int32)))]))
    refine own_if0M X481 hx (hb hby at_106) (cd := .ne) (x := own_f5 a40 ((0 : Int32) + ((p2 &&& (2147483647 : Int32)) % (16777217 : Int32))) ((((((0 : Int32) + (1 : Int32)) + (1 : Int32)) + (1 : Int32)) + (1 : Int32)) + (1 : Int32))) (pt := 111) (q := 109) (by decide) (by decide) rfl rfl (fun _ => ?_) (fun h => False.elim ((by unfold own_f5; decide : ¬ ((own_f5 a40 ((0 : Int32) + ((p2 &&& (2147483647 : Int32)) % (16777217 : Int32))) ((((((0 : Int32) + (1 : Int32)) + (1 : Int32)) + (1 : Int32)) + (1 : Int32)) + (1 : Int32))) = (0 : Int32))) h))
    refine own_iloadN X481 hx (hb hby at_111) (q := 112) rfl rfl ?_
    refine own_bipush X481 hx (v := (6 : Int32)) (hb hby at_112) (q := 114) rfl rfl ?_
    refine own_icmpM X481 hx (hb hby at_114) (cd := .le) (x := (6 : Int32)) (y := (6 : Int32)) (pt := 126) (q := 117) (by decide) (by decide) rfl rfl (fun _ => ?_) (fun h => False.elim (((by decide) : ¬ ((6 : Int32) < (6 : Int32))) h))
    refine own_aloadN X481 hx (hb hby at_126) (q := 127) rfl rfl rfl ?_
    refine own_callVP X481 hx hZ hown (hw _ (List.mem_of_getElem? (i := 18) rfl)) (hw _ (List.mem_of_getElem? (i := 19) rfl)) (hw _ (List.mem_of_getElem? (i := 21) rfl)) (hw _ (List.mem_of_getElem? (i := 21) rfl)) (hw _ (List.mem_of_getElem? (i := 20) rfl)) (hw _ (List.mem_of_getElem? (i := 2) rfl)) (hw _ (List.mem_of_getElem? (i := 22) rfl)) E486 (by decide) (rm4 l Z a0 hw [] a40 ((0 : Int32) + ((p2 &&& (2147483647 : Int32)) % (16777217 : Int32))) T479.heap F487) own_pd2 rfl rfl (by rw [hml]; rfl) (argsL := []) (st := []) rfl (W := 0) (Nat.le_of_eq rfl) (by decide) (by decide) (by decide) (by decide) (hb hby at_127) (q := 130) rfl (fun T490 X491 e492 => ?_)
    refine own_ldc X491 hx hZ hown (hw _ (List.mem_of_getElem? (i := 24) rfl)) (hb hby at_130) (q := 132) rfl ?_
    refine own_iload X491 hx (hb hby at_132) (q := 134) rfl rfl ?_
    refine own_isub X491 hx (hb hby at_134) (q := 135) rfl ?_
    refine own_icmpM X491 hx (hb hby at_135) (cd := .ne) (x := own_f4 ((0 : Int32) + ((p2 &&& (2147483647 : Int32)) % (16777217 : Int32)))) (y := (16777216 : Int32) - ((p2 &&& (2147483647 : Int32)) % (16777217 : Int32))) (pt := 142) (q := 138) (by decide) (by decide) rfl rfl (fun h => False.elim (h (own_left _ : (own_f4 ((0 : Int32) + ((p2 &&& (2147483647 : Int32)) % (16777217 : Int32)))) = ((16777216 : Int32) - ((p2 &&& (2147483647 : Int32)) % (16777217 : Int32)))))) (fun _ => ?_)
    refine own_iconst X491 hx (v := (1 : Int32)) (hb hby at_138) (q := 139) rfl rfl ?_
    refine own_goto X491 hx (hb hby at_139) (q := 143) (by decide) (by decide) ?_
    refine own_retN X491 hx hlk (t := .boolean) (by simp) Bd.returns (hb hby at_143) ?_ (by decide) (by decide)
    exact ⟨rfl, N485⟩
  · rw [hk]
    refine own_iloadN X50 hx (hb hby at_13) (q := 14) rfl rfl ?_
    refine own_ldc X50 hx hZ hown (hw _ (List.mem_of_getElem? (i := 9) rfl)) (hb hby at_14) (q := 16) rfl ?_
    refine own_iand X50 hx (hb hby at_16) (q := 17) rfl ?_
    refine own_ldc X50 hx hZ hown (hw _ (List.mem_of_getElem? (i := 10) rfl)) (hb hby at_17) (q := 19) rfl ?_
    refine own_irem X50 hx (hb hby at_19) (q := 20) rfl (by decide) ?_
    refine own_istore (L' := #[.val (.int p1), .val (.int p2), .val (.ref a40), .val (.int (7 : Int32)), .val (.int ((p2 &&& (2147483647 : Int32)) % (16777217 : Int32)))]) X50 hx (hb hby at_20) (q := 22) rfl rfl ?_
    refine own_aloadN X50 hx (hb hby at_22) (q := 23) rfl rfl rfl ?_
    refine own_iload X50 hx (hb hby at_23) (q := 25) rfl rfl ?_
    refine own_callV X50 hx hZ hown (hw _ (List.mem_of_getElem? (i := 11) rfl)) (hw _ (List.mem_of_getElem? (i := 12) rfl)) (hw _ (List.mem_of_getElem? (i := 14) rfl)) (hw _ (List.mem_of_getElem? (i := 14) rfl)) (hw _ (List.mem_of_getElem? (i := 13) rfl)) (hw _ (List.mem_of_getElem? (i := 2) rfl)) (hw _ (List.mem_of_getElem? (i := 15) rfl)) A43 (by decide) (rm3 l Z a0 hw [] a40 ((p2 &&& (2147483647 : Int32)) % (16777217 : Int32)) (0 : Int32) (0 : Int32) h39 n0 A43 F47 F48 Z45 ) own_pd1 rfl e51 (by rw [hml]; rfl) (argsL := [.int ((p2 &&& (2147483647 : Int32)) % (16777217 : Int32))]) (st := []) rfl (W := 0) (Nat.le_of_eq rfl) (by decide) (by decide) (by decide) (by decide) (hb hby at_25) (q := 28) rfl (fun v496 T497 L498 X499 hQ500 => ?_)
    obtain ⟨rfl, N501, K502, E504, F505, F506⟩ := hQ500
    have Z507 : n0 ≤ T497.heap.size := Nat.le_trans Z46 K502.1
    have N503 := Fr.app N0 N501
    show own_Go p e below s 16 128 (own_Q0 n0) (T497.setTop (mkF m 28 #[.val (.int p1), .val (.int p2), .val (.ref a40), .val (.int (7 : Int32)), .val (.int ((p2 &&& (2147483647 : Int32)) % (16777217 : Int32)))] []))
    refine own_iloadN X499 hx (hb hby at_28) (q := 29) rfl rfl ?_
    refine own_if0M X499 hx (hb hby at_29) (cd := .le) (x := (7 : Int32)) (pt := 41) (q := 32) (by decide) (by decide) rfl rfl (fun h => False.elim (h ((by decide) : (0 : Int32) < (7 : Int32)))) (fun _ => ?_)
    refine own_aloadN X499 hx (hb hby at_32) (q := 33) rfl rfl rfl ?_
    refine own_callV X499 hx hZ hown (hw _ (List.mem_of_getElem? (i := 25) rfl)) (hw _ (List.mem_of_getElem? (i := 26) rfl)) (hw _ (List.mem_of_getElem? (i := 28) rfl)) (hw _ (List.mem_of_getElem? (i := 28) rfl)) (hw _ (List.mem_of_getElem? (i := 27) rfl)) (hw _ (List.mem_of_getElem? (i := 2) rfl)) (hw _ (List.mem_of_getElem? (i := 29) rfl)) E504 (by decide) (rm5 l Z a0 hw [] a40 ((0 : Int32) + ((p2 &&& (2147483647 : Int32)) % (16777217 : Int32))) (0 : Int32) T497.heap n0 E504 F505 F506 Z45 ) own_pd3 rfl rfl (by rw [hml]; rfl) (argsL := []) (st := []) rfl (W := 0) (Nat.le_of_eq rfl) (by decide) (by decide) (by decide) (by decide) (hb hby at_33) (q := 36) rfl (fun v511 T512 L513 X514 hQ515 => ?_)
    obtain ⟨rfl, N516, K517, E519, F520, F521⟩ := hQ515
    have Z522 : n0 ≤ T512.heap.size := Nat.le_trans Z507 K517.1
    have N518 := Fr.app N503 N516
    show own_Go p e below s 16 128 (own_Q0 n0) (T512.setTop (mkF m 36 #[.val (.int p1), .val (.int p2), .val (.ref a40), .val (.int (7 : Int32)), .val (.int ((p2 &&& (2147483647 : Int32)) % (16777217 : Int32)))] [.int (own_f5 a40 ((0 : Int32) + ((p2 &&& (2147483647 : Int32)) % (16777217 : Int32))) (0 : Int32))]))
    refine own_if0M X514 hx (hb hby at_36) (cd := .ne) (x := own_f5 a40 ((0 : Int32) + ((p2 &&& (2147483647 : Int32)) % (16777217 : Int32))) (0 : Int32)) (pt := 41) (q := 39) (by decide) (by decide) rfl rfl (fun _ => ?_) (fun h => False.elim ((by unfold own_f5; decide : ¬ ((own_f5 a40 ((0 : Int32) + ((p2 &&& (2147483647 : Int32)) % (16777217 : Int32))) (0 : Int32)) = (0 : Int32))) h))
    refine own_iloadN X514 hx (hb hby at_41) (q := 42) rfl rfl ?_
    refine own_iconst X514 hx (v := (1 : Int32)) (hb hby at_42) (q := 43) rfl rfl ?_
    refine own_icmpM X514 hx (hb hby at_43) (cd := .le) (x := (7 : Int32)) (y := (1 : Int32)) (pt := 55) (q := 46) (by decide) (by decide) rfl rfl (fun h => False.elim (h ((by decide) : (1 : Int32) < (7 : Int32)))) (fun _ => ?_)
    refine own_aloadN X514 hx (hb hby at_46) (q := 47) rfl rfl rfl ?_
    refine own_callV X514 hx hZ hown (hw _ (List.mem_of_getElem? (i := 25) rfl)) (hw _ (List.mem_of_getElem? (i := 26) rfl)) (hw _ (List.mem_of_getElem? (i := 28) rfl)) (hw _ (List.mem_of_getElem? (i := 28) rfl)) (hw _ (List.mem_of_getElem? (i := 27) rfl)) (hw _ (List.mem_of_getElem? (i := 2) rfl)) (hw _ (List.mem_of_getElem? (i := 29) rfl)) E519 (by decide) (rm5 l Z a0 hw [] a40 ((0 : Int32) + ((p2 &&& (2147483647 : Int32)) % (16777217 : Int32))) ((0 : Int32) + (1 : Int32)) T512.heap n0 E519 F520 F521 Z45 ) own_pd3 rfl rfl (by rw [hml]; rfl) (argsL := []) (st := []) rfl (W := 0) (Nat.le_of_eq rfl) (by decide) (by decide) (by decide) (by decide) (hb hby at_47) (q := 50) rfl (fun v526 T527 L528 X529 hQ530 => ?_)
    obtain ⟨rfl, N531, K532, E534, F535, F536⟩ := hQ530
    have Z537 : n0 ≤ T527.heap.size := Nat.le_trans Z522 K532.1
    have N533 := Fr.app N518 N531
    show own_Go p e below s 16 128 (own_Q0 n0) (T527.setTop (mkF m 50 #[.val (.int p1), .val (.int p2), .val (.ref a40), .val (.int (7 : Int32)), .val (.int ((p2 &&& (2147483647 : Int32)) % (16777217 : Int32)))] [.int (own_f5 a40 ((0 : Int32) + ((p2 &&& (2147483647 : Int32)) % (16777217 : Int32))) ((0 : Int32) + (1 : Int32)))]))
    refine own_if0M X529 hx (hb hby at_50) (cd := .ne) (x := own_f5 a40 ((0 : Int32) + ((p2 &&& (2147483647 : Int32)) % (16777217 : Int32))) ((0 : Int32) + (1 : Int32))) (pt := 55) (q := 53) (by decide) (by decide) rfl rfl (fun _ => ?_) (fun h => False.elim ((by unfold own_f5; decide : ¬ ((own_f5 a40 ((0 : Int32) + ((p2 &&& (2147483647 : Int32)) % (16777217 : Int32))) ((0 : Int32) + (1 : Int32))) = (0 : Int32))) h))
    refine own_iloadN X529 hx (hb hby at_55) (q := 56) rfl rfl ?_
    refine own_iconst X529 hx (v := (2 : Int32)) (hb hby at_56) (q := 57) rfl rfl ?_
    refine own_icmpM X529 hx (hb hby at_57) (cd := .le) (x := (7 : Int32)) (y := (2 : Int32)) (pt := 69) (q := 60) (by decide) (by decide) rfl rfl (fun h => False.elim (h ((by decide) : (2 : Int32) < (7 : Int32)))) (fun _ => ?_)
    refine own_aloadN X529 hx (hb hby at_60) (q := 61) rfl rfl rfl ?_
    refine own_callV X529 hx hZ hown (hw _ (List.mem_of_getElem? (i := 25) rfl)) (hw _ (List.mem_of_getElem? (i := 26) rfl)) (hw _ (List.mem_of_getElem? (i := 28) rfl)) (hw _ (List.mem_of_getElem? (i := 28) rfl)) (hw _ (List.mem_of_getElem? (i := 27) rfl)) (hw _ (List.mem_of_getElem? (i := 2) rfl)) (hw _ (List.mem_of_getElem? (i := 29) rfl)) E534 (by decide) (rm5 l Z a0 hw [] a40 ((0 : Int32) + ((p2 &&& (2147483647 : Int32)) % (16777217 : Int32))) (((0 : Int32) + (1 : Int32)) + (1 : Int32)) T527.heap n0 E534 F535 F536 Z45 ) own_pd3 rfl rfl (by rw [hml]; rfl) (argsL := []) (st := []) rfl (W := 0) (Nat.le_of_eq rfl) (by decide) (by decide) (by decide) (by decide) (hb hby at_61) (q := 64) rfl (fun v541 T542 L543 X544 hQ545 => ?_)
    obtain ⟨rfl, N546, K547, E549, F550, F551⟩ := hQ545
    have Z552 : n0 ≤ T542.heap.size := Nat.le_trans Z537 K547.1
    have N548 := Fr.app N533 N546
    show own_Go p e below s 16 128 (own_Q0 n0) (T542.setTop (mkF m 64 #[.val (.int p1), .val (.int p2), .val (.ref a40), .val (.int (7 : Int32)), .val (.int ((p2 &&& (2147483647 : Int32)) % (16777217 : Int32)))] [.int (own_f5 a40 ((0 : Int32) + ((p2 &&& (2147483647 : Int32)) % (16777217 : Int32))) (((0 : Int32) + (1 : Int32)) + (1 : Int32)))]))
    refine own_if0M X544 hx (hb hby at_64) (cd := .ne) (x := own_f5 a40 ((0 : Int32) + ((p2 &&& (2147483647 : Int32)) % (16777217 : Int32))) (((0 : Int32) + (1 : Int32)) + (1 : Int32))) (pt := 69) (q := 67) (by decide) (by decide) rfl rfl (fun _ => ?_) (fun h => False.elim ((by unfold own_f5; decide : ¬ ((own_f5 a40 ((0 : Int32) + ((p2 &&& (2147483647 : Int32)) % (16777217 : Int32))) (((0 : Int32) + (1 : Int32)) + (1 : Int32))) = (0 : Int32))) h))
    refine own_iloadN X544 hx (hb hby at_69) (q := 70) rfl rfl ?_
    refine own_iconst X544 hx (v := (3 : Int32)) (hb hby at_70) (q := 71) rfl rfl ?_
    refine own_icmpM X544 hx (hb hby at_71) (cd := .le) (x := (7 : Int32)) (y := (3 : Int32)) (pt := 83) (q := 74) (by decide) (by decide) rfl rfl (fun h => False.elim (h ((by decide) : (3 : Int32) < (7 : Int32)))) (fun _ => ?_)
    refine own_aloadN X544 hx (hb hby at_74) (q := 75) rfl rfl rfl ?_
    refine own_callV X544 hx hZ hown (hw _ (List.mem_of_getElem? (i := 25) rfl)) (hw _ (List.mem_of_getElem? (i := 26) rfl)) (hw _ (List.mem_of_getElem? (i := 28) rfl)) (hw _ (List.mem_of_getElem? (i := 28) rfl)) (hw _ (List.mem_of_getElem? (i := 27) rfl)) (hw _ (List.mem_of_getElem? (i := 2) rfl)) (hw _ (List.mem_of_getElem? (i := 29) rfl)) E549 (by decide) (rm5 l Z a0 hw [] a40 ((0 : Int32) + ((p2 &&& (2147483647 : Int32)) % (16777217 : Int32))) ((((0 : Int32) + (1 : Int32)) + (1 : Int32)) + (1 : Int32)) T542.heap n0 E549 F550 F551 Z45 ) own_pd3 rfl rfl (by rw [hml]; rfl) (argsL := []) (st := []) rfl (W := 0) (Nat.le_of_eq rfl) (by decide) (by decide) (by decide) (by decide) (hb hby at_75) (q := 78) rfl (fun v556 T557 L558 X559 hQ560 => ?_)
    obtain ⟨rfl, N561, K562, E564, F565, F566⟩ := hQ560
    have Z567 : n0 ≤ T557.heap.size := Nat.le_trans Z552 K562.1
    have N563 := Fr.app N548 N561
    show own_Go p e below s 16 128 (own_Q0 n0) (T557.setTop (mkF m 78 #[.val (.int p1), .val (.int p2), .val (.ref a40), .val (.int (7 : Int32)), .val (.int ((p2 &&& (2147483647 : Int32)) % (16777217 : Int32)))] [.int (own_f5 a40 ((0 : Int32) + ((p2 &&& (2147483647 : Int32)) % (16777217 : Int32))) ((((0 : Int32) + (1 : Int32)) + (1 : Int32)) + (1 : Int32)))]))
    refine own_if0M X559 hx (hb hby at_78) (cd := .ne) (x := own_f5 a40 ((0 : Int32) + ((p2 &&& (2147483647 : Int32)) % (16777217 : Int32))) ((((0 : Int32) + (1 : Int32)) + (1 : Int32)) + (1 : Int32))) (pt := 83) (q := 81) (by decide) (by decide) rfl rfl (fun _ => ?_) (fun h => False.elim ((by unfold own_f5; decide : ¬ ((own_f5 a40 ((0 : Int32) + ((p2 &&& (2147483647 : Int32)) % (16777217 : Int32))) ((((0 : Int32) + (1 : Int32)) + (1 : Int32)) + (1 : Int32))) = (0 : Int32))) h))
    refine own_iloadN X559 hx (hb hby at_83) (q := 84) rfl rfl ?_
    refine own_iconst X559 hx (v := (4 : Int32)) (hb hby at_84) (q := 85) rfl rfl ?_
    refine own_icmpM X559 hx (hb hby at_85) (cd := .le) (x := (7 : Int32)) (y := (4 : Int32)) (pt := 97) (q := 88) (by decide) (by decide) rfl rfl (fun h => False.elim (h ((by decide) : (4 : Int32) < (7 : Int32)))) (fun _ => ?_)
    refine own_aloadN X559 hx (hb hby at_88) (q := 89) rfl rfl rfl ?_
    refine own_callV X559 hx hZ hown (hw _ (List.mem_of_getElem? (i := 25) rfl)) (hw _ (List.mem_of_getElem? (i := 26) rfl)) (hw _ (List.mem_of_getElem? (i := 28) rfl)) (hw _ (List.mem_of_getElem? (i := 28) rfl)) (hw _ (List.mem_of_getElem? (i := 27) rfl)) (hw _ (List.mem_of_getElem? (i := 2) rfl)) (hw _ (List.mem_of_getElem? (i := 29) rfl)) E564 (by decide) (rm5 l Z a0 hw [] a40 ((0 : Int32) + ((p2 &&& (2147483647 : Int32)) % (16777217 : Int32))) (((((0 : Int32) + (1 : Int32)) + (1 : Int32)) + (1 : Int32)) + (1 : Int32)) T557.heap n0 E564 F565 F566 Z45 ) own_pd3 rfl rfl (by rw [hml]; rfl) (argsL := []) (st := []) rfl (W := 0) (Nat.le_of_eq rfl) (by decide) (by decide) (by decide) (by decide) (hb hby at_89) (q := 92) rfl (fun v571 T572 L573 X574 hQ575 => ?_)
    obtain ⟨rfl, N576, K577, E579, F580, F581⟩ := hQ575
    have Z582 : n0 ≤ T572.heap.size := Nat.le_trans Z567 K577.1
    have N578 := Fr.app N563 N576
    show own_Go p e below s 16 128 (own_Q0 n0) (T572.setTop (mkF m 92 #[.val (.int p1), .val (.int p2), .val (.ref a40), .val (.int (7 : Int32)), .val (.int ((p2 &&& (2147483647 : Int32)) % (16777217 : Int32)))] [.int (own_f5 a40 ((0 : Int32) + ((p2 &&& (2147483647 : Int32)) % (16777217 : Int32))) (((((0 : Int32) + (1 : Int32)) + (1 : Int32)) + (1 : Int32)) + (1 : Int32)))]))
    refine own_if0M X574 hx (hb hby at_92) (cd := .ne) (x := own_f5 a40 ((0 : Int32) + ((p2 &&& (2147483647 : Int32)) % (16777217 : Int32))) (((((0 : Int32) + (1 : Int32)) + (1 : Int32)) + (1 : Int32)) + (1 : Int32))) (pt := 97) (q := 95) (by decide) (by decide) rfl rfl (fun _ => ?_) (fun h => False.elim ((by unfold own_f5; decide : ¬ ((own_f5 a40 ((0 : Int32) + ((p2 &&& (2147483647 : Int32)) % (16777217 : Int32))) (((((0 : Int32) + (1 : Int32)) + (1 : Int32)) + (1 : Int32)) + (1 : Int32))) = (0 : Int32))) h))
    refine own_iloadN X574 hx (hb hby at_97) (q := 98) rfl rfl ?_
    refine own_iconst X574 hx (v := (5 : Int32)) (hb hby at_98) (q := 99) rfl rfl ?_
    refine own_icmpM X574 hx (hb hby at_99) (cd := .le) (x := (7 : Int32)) (y := (5 : Int32)) (pt := 111) (q := 102) (by decide) (by decide) rfl rfl (fun h => False.elim (h ((by decide) : (5 : Int32) < (7 : Int32)))) (fun _ => ?_)
    refine own_aloadN X574 hx (hb hby at_102) (q := 103) rfl rfl rfl ?_
    refine own_callV X574 hx hZ hown (hw _ (List.mem_of_getElem? (i := 25) rfl)) (hw _ (List.mem_of_getElem? (i := 26) rfl)) (hw _ (List.mem_of_getElem? (i := 28) rfl)) (hw _ (List.mem_of_getElem? (i := 28) rfl)) (hw _ (List.mem_of_getElem? (i := 27) rfl)) (hw _ (List.mem_of_getElem? (i := 2) rfl)) (hw _ (List.mem_of_getElem? (i := 29) rfl)) E579 (by decide) (rm5 l Z a0 hw [] a40 ((0 : Int32) + ((p2 &&& (2147483647 : Int32)) % (16777217 : Int32))) ((((((0 : Int32) + (1 : Int32)) + (1 : Int32)) + (1 : Int32)) + (1 : Int32)) + (1 : Int32)) T572.heap n0 E579 F580 F581 Z45 ) own_pd3 rfl rfl (by rw [hml]; rfl) (argsL := []) (st := []) rfl (W := 0) (Nat.le_of_eq rfl) (by decide) (by decide) (by decide) (by decide) (hb hby at_103) (q := 106) rfl (fun v586 T587 L588 X589 hQ590 => ?_)
    obtain ⟨rfl, N591, K592, E594, F595, F596⟩ := hQ590
    have Z597 : n0 ≤ T587.heap.size := Nat.le_trans Z582 K592.1
    have N593 := Fr.app N578 N591
    show own_Go p e below s 16 128 (own_Q0 n0) (T587.setTop (mkF m 106 #[.val (.int p1), .val (.int p2), .val (.ref a40), .val (.int (7 : Int32)), .val (.int ((p2 &&& (2147483647 : Int32)) % (16777217 : Int32)))] [.int (own_f5 a40 ((0 : Int32) + ((p2 &&& (2147483647 : Int32)) % (16777217 : Int32))) ((((((0 : Int32) + (1 : Int32)) + (1 : Int32)) + (1 : Int32)) + (1 : Int32)) + (1 : Int32)))]))
    refine own_if0M X589 hx (hb hby at_106) (cd := .ne) (x := own_f5 a40 ((0 : Int32) + ((p2 &&& (2147483647 : Int32)) % (16777217 : Int32))) ((((((0 : Int32) + (1 : Int32)) + (1 : Int32)) + (1 : Int32)) + (1 : Int32)) + (1 : Int32))) (pt := 111) (q := 109) (by decide) (by decide) rfl rfl (fun _ => ?_) (fun h => False.elim ((by unfold own_f5; decide : ¬ ((own_f5 a40 ((0 : Int32) + ((p2 &&& (2147483647 : Int32)) % (16777217 : Int32))) ((((((0 : Int32) + (1 : Int32)) + (1 : Int32)) + (1 : Int32)) + (1 : Int32)) + (1 : Int32))) = (0 : Int32))) h))
    refine own_iloadN X589 hx (hb hby at_111) (q := 112) rfl rfl ?_
    refine own_bipush X589 hx (v := (6 : Int32)) (hb hby at_112) (q := 114) rfl rfl ?_
    refine own_icmpM X589 hx (hb hby at_114) (cd := .le) (x := (7 : Int32)) (y := (6 : Int32)) (pt := 126) (q := 117) (by decide) (by decide) rfl rfl (fun h => False.elim (h ((by decide) : (6 : Int32) < (7 : Int32)))) (fun _ => ?_)
    refine own_aloadN X589 hx (hb hby at_117) (q := 118) rfl rfl rfl ?_
    refine own_callV X589 hx hZ hown (hw _ (List.mem_of_getElem? (i := 25) rfl)) (hw _ (List.mem_of_getElem? (i := 26) rfl)) (hw _ (List.mem_of_getElem? (i := 28) rfl)) (hw _ (List.mem_of_getElem? (i := 28) rfl)) (hw _ (List.mem_of_getElem? (i := 27) rfl)) (hw _ (List.mem_of_getElem? (i := 2) rfl)) (hw _ (List.mem_of_getElem? (i := 29) rfl)) E594 (by decide) (rm5 l Z a0 hw [] a40 ((0 : Int32) + ((p2 &&& (2147483647 : Int32)) % (16777217 : Int32))) (((((((0 : Int32) + (1 : Int32)) + (1 : Int32)) + (1 : Int32)) + (1 : Int32)) + (1 : Int32)) + (1 : Int32)) T587.heap n0 E594 F595 F596 Z45 ) own_pd3 rfl rfl (by rw [hml]; rfl) (argsL := []) (st := []) rfl (W := 0) (Nat.le_of_eq rfl) (by decide) (by decide) (by decide) (by decide) (hb hby at_118) (q := 121) rfl (fun v601 T602 L603 X604 hQ605 => ?_)
    obtain ⟨rfl, N606, K607, E609, F610, F611⟩ := hQ605
    have Z612 : n0 ≤ T602.heap.size := Nat.le_trans Z597 K607.1
    have N608 := Fr.app N593 N606
    show own_Go p e below s 16 128 (own_Q0 n0) (T602.setTop (mkF m 121 #[.val (.int p1), .val (.int p2), .val (.ref a40), .val (.int (7 : Int32)), .val (.int ((p2 &&& (2147483647 : Int32)) % (16777217 : Int32)))] [.int (own_f5 a40 ((0 : Int32) + ((p2 &&& (2147483647 : Int32)) % (16777217 : Int32))) (((((((0 : Int32) + (1 : Int32)) + (1 : Int32)) + (1 : Int32)) + (1 : Int32)) + (1 : Int32)) + (1 : Int32)))]))
    refine own_if0M X604 hx (hb hby at_121) (cd := .ne) (x := own_f5 a40 ((0 : Int32) + ((p2 &&& (2147483647 : Int32)) % (16777217 : Int32))) (((((((0 : Int32) + (1 : Int32)) + (1 : Int32)) + (1 : Int32)) + (1 : Int32)) + (1 : Int32)) + (1 : Int32))) (pt := 126) (q := 124) (by decide) (by decide) rfl rfl (fun _ => ?_) (fun h => False.elim ((by unfold own_f5; decide : ¬ ((own_f5 a40 ((0 : Int32) + ((p2 &&& (2147483647 : Int32)) % (16777217 : Int32))) (((((((0 : Int32) + (1 : Int32)) + (1 : Int32)) + (1 : Int32)) + (1 : Int32)) + (1 : Int32)) + (1 : Int32))) = (0 : Int32))) h))
    refine own_aloadN X604 hx (hb hby at_126) (q := 127) rfl rfl rfl ?_
    refine own_callVP X604 hx hZ hown (hw _ (List.mem_of_getElem? (i := 18) rfl)) (hw _ (List.mem_of_getElem? (i := 19) rfl)) (hw _ (List.mem_of_getElem? (i := 21) rfl)) (hw _ (List.mem_of_getElem? (i := 21) rfl)) (hw _ (List.mem_of_getElem? (i := 20) rfl)) (hw _ (List.mem_of_getElem? (i := 2) rfl)) (hw _ (List.mem_of_getElem? (i := 22) rfl)) E609 (by decide) (rm4 l Z a0 hw [] a40 ((0 : Int32) + ((p2 &&& (2147483647 : Int32)) % (16777217 : Int32))) T602.heap F610) own_pd2 rfl rfl (by rw [hml]; rfl) (argsL := []) (st := []) rfl (W := 0) (Nat.le_of_eq rfl) (by decide) (by decide) (by decide) (by decide) (hb hby at_127) (q := 130) rfl (fun T613 X614 e615 => ?_)
    refine own_ldc X614 hx hZ hown (hw _ (List.mem_of_getElem? (i := 24) rfl)) (hb hby at_130) (q := 132) rfl ?_
    refine own_iload X614 hx (hb hby at_132) (q := 134) rfl rfl ?_
    refine own_isub X614 hx (hb hby at_134) (q := 135) rfl ?_
    refine own_icmpM X614 hx (hb hby at_135) (cd := .ne) (x := own_f4 ((0 : Int32) + ((p2 &&& (2147483647 : Int32)) % (16777217 : Int32)))) (y := (16777216 : Int32) - ((p2 &&& (2147483647 : Int32)) % (16777217 : Int32))) (pt := 142) (q := 138) (by decide) (by decide) rfl rfl (fun h => False.elim (h (own_left _ : (own_f4 ((0 : Int32) + ((p2 &&& (2147483647 : Int32)) % (16777217 : Int32)))) = ((16777216 : Int32) - ((p2 &&& (2147483647 : Int32)) % (16777217 : Int32)))))) (fun _ => ?_)
    refine own_iconst X614 hx (v := (1 : Int32)) (hb hby at_138) (q := 139) rfl rfl ?_
    refine own_goto X614 hx (hb hby at_139) (q := 143) (by decide) (by decide) ?_
    refine own_retN X614 hx hlk (t := .boolean) (by simp) Bd.returns (hb hby at_143) ?_ (by decide) (by decide)
    exact ⟨rfl, N608⟩
set_option maxRecDepth 65536 in
set_option maxHeartbeats 40000000 in
theorem comes_1 {Post : Tables → Env → Array Value → State → Outcome → State → Prop} (hpost : ∀ tb e args s v u, (limb_1_1.after args s (.returned v) u = true ∧ limb_1_2.after args s (.returned v) u = true ∧ True) → FrameEnd s (.returned v) u (Jvm.fieldLocs frame_1_writes args s ++ Jvm.arrayLocs frame_1_arrays args s ++ Jvm.staticLocs frame_1_statics s) 16 128 → Post tb e args s (.returned v) u) :
    ArmFor flags0 classFile x code maxLocals ret World_1 tables_1 room_1 Calls_1 rest_1 Pre_1 Post := by
  intro l hfl _ _ p e ha hc hk s m args below hf hA hF happ hP
  obtain ⟨hcalls, hrest, hpre⟩ := hP
  obtain ⟨-, -, -, hnamed, -, -, -, hat⟩ := (Spec.applies_iff hf).mp happ
  obtain ⟨hg, hn⟩ := and_e (Cond.before_iff.mp (show (Jvm.Cond.and given_1 narrow_1).before args s = true from hpre))
  obtain ⟨h1, g0⟩ := and_e hg
  obtain ⟨k0, g1⟩ := and_e g0
  have k1 := g1
  obtain ⟨w0, w1, rfl⟩ : ∃ w0 w1 : Value, args = #[w0, w1] := by
    have hs : args.size = 2 := by simpa [Cond.value, given_1] using h1
    obtain ⟨L⟩ := args
    match L, hs with
    | [w0, w1], _ => exact ⟨w0, w1, rfl⟩
  have hw := fun d (hd : d ∈ tables_1) => atoms_spec (ws := Jvm.Cond.code x code maxLocals ret :: tables_1) hat d (List.mem_cons_of_mem _ hd)
  have hfit : Fit s := fun {y c} hc i hi => by
    obtain ⟨ha, rfl⟩ := Array.getElem?_eq_some_iff.mp hc
    have q := List.all_eq_true.mp ((Array.all_eq_true_iff_forall_mem.mp hF) _ (Array.getElem_mem ha)) i (List.mem_range.mpr hi)
    simpa [Array.getElem?_eq_getElem hi] using q
  obtain ⟨i0, e0⟩ := is_v k0
  obtain rfl : w0 = (.int i0) := Option.some.inj e0
  obtain ⟨i1, e1⟩ := is_v k1
  obtain rfl : w1 = (.int i1) := Option.some.inj e1
  obtain ⟨n, o, h1, h2, h3, _, L, rfl, ⟨rfl, N⟩, hq⟩ := rm0 l s _ hw tables_1 i0 i1 s.heap s.heap.size (Nat.le_refl _)  p e ha hc hk s m _ below hf ((Spec.applies_iff_loose hf).mp happ).1 ⟨rfl, State.Warmed39.refl s, rfl⟩ trivial
  refine ⟨n, _, h1, h2, h3, hpost _ _ _ _ _ _ ⟨Cond.after_iff.mpr rfl, Cond.after_iff.mpr (eq_i res_at (Term.int_eval (1)) rfl), trivial⟩ ⟨hq.1, hq.2.1, (hq.2.2.sift fun y hy => Or.inr (N y hy)).mono (by decide) (by decide)⟩⟩
theorem main_1_1 : Claimed_1_1 := comes_1 fun _ _ _ _ _ _ h hF => ⟨h.1, hF⟩
theorem main_1_2 : Claimed_1_2 := comes_1 fun _ _ _ _ _ _ h hF => ⟨h.2.1, hF⟩
end Jvm.Pilot.@@N@@
namespace Jvm.Pilot.@@N@@
open Jvm Jvm.ClassFile Sem Op Lib Jvm.Free Jvm.Stand Jvm.Pilot.@@N@@.Jvm.D
/-! MADE BY PROGRAM (witnessworld.py) out of the Statement's table words and the real class files: 9 classes; the members and pool entries that the words name. The judged class is class 1, her method 1. -/
namespace start1
open Jvm.ClassFile
def u (s : String) : CpInfo := .utf8 (stringToUtf16 s)
/-- a pool by its gaps: so many unusable entries, then the entry; so many at the end -/
def gap : Nat → List CpInfo → List CpInfo
  | 0, r => r
  | n + 1, r => .unusable :: gap n r
def poolList (es : List (Nat × CpInfo)) (last : Nat) : List CpInfo := es.foldr (fun e r => gap e.1 (e.2 :: r)) (gap last [])
def pool (es : List (Nat × CpInfo)) (last : Nat) : Array CpInfo := ⟨poolList es last⟩
def fileOf (pool : Array CpInfo) (this : Nat) (attrs : Array Attribute := #[]) (ms : Array MethodInfo := #[]) (fl : Nat := 33) (sup : Nat := 0) (ifs : Array Nat := #[]) (fds : Array FieldInfo := #[]) : ClassFile where
  minorVersion := 0
  majorVersion := 65
  constantPool := pool
  accessFlags := fl
  thisClass := this
  superClass := sup
  interfaces := ifs
  fields := fds
  methods := ms
  attributes := attrs
def plain (name : String) (sup : Option ClassId) : Class where
  name := name
  kind := .ordinary
  loader := none
  accessFlags := 33
  super := sup
  interfaces := #[]
  cf := none
  fields := #[]
  methods := #[]
  instanceTypes := #[]
  staticTypes := #[]
  resolved := #[]
  callSites := []
  init := .initialized
  statics := none
  mirror := none

def pool0 : Array CpInfo := pool [(5, u "<init>"), (0, u "()V"), (1, .class_ 10), (1, u "java/lang/Object")] 113

def k0c0 : Code := { maxStack := 0, maxLocals := 1, code := object_method_1_code, exceptionTable := #[], attributes := #[] }
def k0m0 : Method := { name := "<init>", desc := "()V", sig := { parameters := [], returnType := none }, accessFlags := 1, code := some k0c0 }
/-- java/lang/Object -/
def k0 : Class := { plain "java/lang/Object" none with
  accessFlags := 33
  interfaces := #[]
  cf := some (fileOf pool0 8 #[] #[{ accessFlags := 1, nameIndex := 5, descriptorIndex := 6, attributes := #[] }] 33 0 #[] #[])
  fields := #[]
  methods := #[k0m0]
  instanceTypes := #[]
  staticTypes := #[]
  resolved := Array.replicate 124 none
  statics := none }

def pool1 : Array CpInfo := pool [(2, .class_ 4), (0, .nameAndType 5 6), (0, u "java/lang/Object"), (0, u "<init>"), (0, u "()V"), (0, .class_ 8), (0, u "com/example/ferrule/ferrule/JsonBudget"), (0, .methodref 7 3), (0, .integer 2147483647), (0, .integer 16777217), (0, .methodref 7 13), (0, .nameAndType 14 15), (0, u "spendBytes"), (0, u "(I)V"), (0, .methodref 7 17), (0, .nameAndType 18 19), (0, u "spendValue"), (0, u "()Z"), (0, .methodref 7 21), (0, .nameAndType 22 23), (0, u "bytesLeft"), (0, u "()I"), (0, .integer 16777216), (0, .class_ 26), (0, u "com/example/ferrule/ferrule/JsonBudgetSpendValuePinLaw"), (2, u "law"), (0, u "(II)Z")] 3

def k1m0 : Method := { name := "<init>", desc := "()V", sig := { parameters := [], returnType := none }, accessFlags := 2, code := none }
def k1c1 : Code := { maxStack := 3, maxLocals := 5, code := code, exceptionTable := #[], attributes := #[] }
def k1m1 : Method := { name := "law", desc := "(II)Z", sig := { parameters := [.int, .int], returnType := some .boolean }, accessFlags := 9, code := some k1c1 }
/-- com/example/ferrule/ferrule/JsonBudgetSpendValuePinLaw -/
def k1 : Class := { plain "com/example/ferrule/ferrule/JsonBudgetSpendValuePinLaw" (some 0) with
  accessFlags := 49
  interfaces := #[]
  cf := some (fileOf pool1 25 #[] #[{ accessFlags := 2, nameIndex := 5, descriptorIndex := 6, attributes := #[] }, { accessFlags := 9, nameIndex := 29, descriptorIndex := 30, attributes := #[] }] 49 2 #[] #[])
  fields := #[]
  methods := #[k1m0, k1m1]
  instanceTypes := #[]
  staticTypes := #[]
  resolved := Array.replicate 34 none
  statics := none }

def pool2 : Array CpInfo := pool [(1, .methodref 2 3), (0, .class_ 4), (0, .nameAndType 5 6), (0, u "java/lang/Object"), (0, u "<init>"), (0, u "()V"), (0, .class_ 8), (0, u "com/example/ferrule/ferrule/JsonBudget"), (0, .integer 16777216), (0, .fieldref 7 11), (0, .nameAndType 12 13), (0, u "bytes"), (0, u "I"), (0, .fieldref 7 15), (0, .nameAndType 16 13), (0, u "values"), (0, .integer 500000), (10, u "MAX_BYTES"), (1, u "MAX_VALUES"), (2, u "bytesLeft"), (0, u "()I"), (0, u "spendBytes"), (0, u "(I)V"), (0, u "spendValue"), (0, u "()Z")] 5

def k2c0 : Code := { maxStack := 1, maxLocals := 1, code := prog_4_method_1_code, exceptionTable := #[], attributes := #[] }
def k2m0 : Method := { name := "<init>", desc := "()V", sig := { parameters := [], returnType := none }, accessFlags := 1, code := some k2c0 }
def k2c1 : Code := { maxStack := 2, maxLocals := 1, code := prog_4_method_2_code, exceptionTable := #[], attributes := #[] }
def k2m1 : Method := { name := "bytesLeft", desc := "()I", sig := { parameters := [], returnType := some .int }, accessFlags := 0, code := some k2c1 }
def k2c2 : Code := { maxStack := 3, maxLocals := 2, code := prog_4_method_3_code, exceptionTable := #[], attributes := #[] }
def k2m2 : Method := { name := "spendBytes", desc := "(I)V", sig := { parameters := [.int], returnType := none }, accessFlags := 0, code := some k2c2 }
def k2c3 : Code := { maxStack := 3, maxLocals := 1, code := prog_4_method_4_code, exceptionTable := #[], attributes := #[] }
def k2m3 : Method := { name := "spendValue", desc := "()Z", sig := { parameters := [], returnType := some .boolean }, accessFlags := 0, code := some k2c3 }
/-- com/example/ferrule/ferrule/JsonBudget -/
def k2 : Class := { plain "com/example/ferrule/ferrule/JsonBudget" (some 0) with
  accessFlags := 33
  interfaces := #[]
  cf := some (fileOf pool2 7 #[] #[{ accessFlags := 1, nameIndex := 5, descriptorIndex := 6, attributes := #[] }, { accessFlags := 0, nameIndex := 33, descriptorIndex := 34, attributes := #[] }, { accessFlags := 0, nameIndex := 35, descriptorIndex := 36, attributes := #[] }, { accessFlags := 0, nameIndex := 37, descriptorIndex := 38, attributes := #[] }] 33 2 #[] #[{ accessFlags := 25, nameIndex := 28, descriptorIndex := 13, attributes := #[] }, { accessFlags := 25, nameIndex := 30, descriptorIndex := 13, attributes := #[] }, { accessFlags := 2, nameIndex := 12, descriptorIndex := 13, attributes := #[] }, { accessFlags := 2, nameIndex := 16, descriptorIndex := 13, attributes := #[] }])
  fields := #[{ name := "MAX_BYTES", type := .int, accessFlags := 25, slot := 0, constantValue := 0 }, { name := "MAX_VALUES", type := .int, accessFlags := 25, slot := 1, constantValue := 0 }, { name := "bytes", type := .int, accessFlags := 2, slot := 0, constantValue := 0 }, { name := "values", type := .int, accessFlags := 2, slot := 1, constantValue := 0 }]
  methods := #[k2m0, k2m1, k2m2, k2m3]
  instanceTypes := #[.int, .int]
  staticTypes := #[.int, .int]
  resolved := Array.replicate 44 none
  statics := none }

def pool3 : Array CpInfo := pool [(1, u "java/lang/Cloneable"), (0, .class_ 1), (0, u "java/lang/Object"), (0, .class_ 3)] 3

/-- java/lang/Cloneable -/
def k3 : Class := { plain "java/lang/Cloneable" (some 0) with
  accessFlags := 1537
  interfaces := #[]
  cf := some (fileOf pool3 2 #[] #[] 1537 4 #[] #[])
  fields := #[]
  methods := #[]
  instanceTypes := #[]
  staticTypes := #[]
  resolved := Array.replicate 8 none
  statics := none }

def pool4 : Array CpInfo := pool [(1, u "java/io/Serializable"), (0, .class_ 1), (0, u "java/lang/Object"), (0, .class_ 3)] 3

/-- java/io/Serializable -/
def k4 : Class := { plain "java/io/Serializable" (some 0) with
  accessFlags := 1537
  interfaces := #[]
  cf := some (fileOf pool4 2 #[] #[] 1537 4 #[] #[])
  fields := #[]
  methods := #[]
  instanceTypes := #[]
  staticTypes := #[]
  resolved := Array.replicate 8 none
  statics := none }

/-- the primitive byte -/
def k5 : Class := { plain "byte" none with kind := .primitive 'B', accessFlags := 0x411 }
/-- [B -/
def k6 : Class := { plain "[B" (some 0) with kind := .array 5 .byte, interfaces := #[3, 4], accessFlags := 1041 }

/-- the primitive int -/
def k7 : Class := { plain "int" none with kind := .primitive 'I', accessFlags := 0x411 }
/-- [I -/
def k8 : Class := { plain "[I" (some 0) with kind := .array 7 .int, interfaces := #[3, 4], accessFlags := 1041 }

def heap : Heap := #[]
def classes : Array Class := #[k0, k1, k2, k3, k4, k5, k6, k7, k8]
def interned : List (Array UInt16 × Addr) := []
def slotsUsed : Nat := 0
def theMethod : MethodId := ⟨1, 1⟩
def args0 : Array Value := #[.int 5, .int 5]
def aboutOver (below : List Frame) : State where
  vm := { classes := classes, interned := interned.toArray }
  heap := heap
  slotsUsed := slotsUsed
  threads := #[{ frames := .invoking theMethod args0 :: below }]
def below0 : List Frame := [.native { method := ⟨0, 0⟩, args := #[] }]
def about1 : State := aboutOver below0
def p0 : Program := .bare "" "" ""
def e0 : Env := launch0.env 0 0 0
theorem w_frames : about1.frames = Frame.invoking theMethod args0 :: below0 := rfl
set_option maxRecDepth 65536 in
theorem w_args : argsFit about1.vm theMethod args0 = true := by decide +kernel
set_option maxRecDepth 65536 in
theorem w_heap : heapFits about1 = true := by decide +kernel
set_option maxRecDepth 65536 in
theorem w_runnable : about1.curStatus? = some .runnable := by decide +kernel
set_option maxRecDepth 65536 in
theorem w_alone : about1.alone = true := by decide +kernel
set_option maxRecDepth 65536 in
theorem w_named : about1.methodNamed? x = some theMethod := by decide +kernel
set_option maxRecDepth 65536 in
theorem w_hears : about1.hears theMethod below0 = true := by decide +kernel
set_option maxRecDepth 65536 in
theorem w_ripe : about1.ripe theMethod args0 below0 = true := by decide +kernel
theorem w_running : about1.status = .running := rfl
set_option maxRecDepth 65536 in
theorem w_room : about1.hasRoom e0.platform room_1 = true :=
  launch0.hasRoom_least _ room_1 (by decide +kernel) (by decide +kernel) (by decide +kernel) (by decide +kernel) (by decide +kernel) (by decide +kernel)
theorem allAtoms_all (ts : List Jvm.Cond) (a : Array Jvm.Value) (st : Jvm.State) : (allAtoms ts).before a st = ts.all (fun c => c.before a st) := by
  induction ts with
  | nil => rfl
  | cons c t ih =>
    show (Jvm.Cond.and c (allAtoms t)).before a st = _
    rw [Jvm.Cond.before_and, ih, List.all_cons]
def words1 : List Jvm.Cond := Jvm.Cond.code x code maxLocals ret :: tables_1
/-- a 'code' word, met by the world's own term for the bytes: nothing is compared byte by byte -/
theorem code_word {y : MethodName} {bytes : ByteArray} {mx : Nat} {rt : Option FieldType} {a : Array Value} {s : State} {m : MethodId} {meth : Method} {c : Code} (h1 : s.methodNamed? y = some m) (h2 : s.vm.method? m = some meth) (h3 : meth.code = some c) (h4 : c.code = bytes)
    (h5 : (c.maxLocals == mx && c.exceptionTable.isEmpty && decide (c.maxStack ≤ mostOperands) && decide (meth.sig.returnType = rt) && !meth.locks && decide (parseMethodDescriptor y.desc = some meth.sig)) = true) : (Jvm.Cond.code y bytes mx rt).before a s = true := by
  simp only [Bool.and_eq_true, beq_iff_eq, Bool.not_eq_true', decide_eq_true_eq] at h5
  obtain ⟨⟨⟨⟨⟨g1, g2⟩, g3⟩, g4⟩, g5⟩, g6⟩ := h5
  simp [Cond.before, Cond.holds, Cond.value, h1, h2, h3, h4, g1, g2, g3, g4, g5, g6]
def isCode : Jvm.Cond → Bool
  | .code _ _ _ _ => true
  | _ => false
theorem all_split {L : List Jvm.Cond} {P : Jvm.Cond → Bool} (h1 : L.all (fun c => isCode c || P c) = true) (h2 : ∀ c ∈ L.filter isCode, P c = true) : L.all P = true := by
  refine List.all_eq_true.mpr fun c hc => ?_
  have h := List.all_eq_true.mp h1 c hc
  rcases Bool.eq_false_or_eq_true (isCode c) with hi | hi
  · exact h2 c (List.mem_filter.mpr ⟨hc, hi⟩)
  · simpa [hi] using h
set_option maxRecDepth 65536 in
theorem w_c0 : (Jvm.Cond.code x code maxLocals ret).before args0 about1 = true := code_word (m := ⟨1, 1⟩) (meth := k1m1) (c := k1c1) (by decide +kernel) rfl rfl rfl (by decide +kernel)
set_option maxRecDepth 65536 in
theorem w_c1 : (Jvm.Cond.code ({ cls := "com/example/ferrule/ferrule/JsonBudget", name := "<init>", desc := "()V" } : Jvm.MethodName) prog_4_method_1_code (1 : Nat) (Option.none : Option Jvm.ClassFile.FieldType)).before args0 about1 = true := code_word (m := ⟨2, 0⟩) (meth := k2m0) (c := k2c0) (by decide +kernel) rfl rfl rfl (by decide +kernel)
set_option maxRecDepth 65536 in
theorem w_c2 : (Jvm.Cond.code ({ cls := "java/lang/Object", name := "<init>", desc := "()V" } : Jvm.MethodName) object_method_1_code (1 : Nat) (Option.none : Option Jvm.ClassFile.FieldType)).before args0 about1 = true := code_word (m := ⟨0, 0⟩) (meth := k0m0) (c := k0c0) (by decide +kernel) rfl rfl rfl (by decide +kernel)
set_option maxRecDepth 65536 in
theorem w_c3 : (Jvm.Cond.code ({ cls := "com/example/ferrule/ferrule/JsonBudget", name := "spendBytes", desc := "(I)V" } : Jvm.MethodName) prog_4_method_3_code (2 : Nat) (Option.none : Option Jvm.ClassFile.FieldType)).before args0 about1 = true := code_word (m := ⟨2, 2⟩) (meth := k2m2) (c := k2c2) (by decide +kernel) rfl rfl rfl (by decide +kernel)
set_option maxRecDepth 65536 in
theorem w_c4 : (Jvm.Cond.code ({ cls := "com/example/ferrule/ferrule/JsonBudget", name := "bytesLeft", desc := "()I" } : Jvm.MethodName) prog_4_method_2_code (1 : Nat) (Option.some Jvm.ClassFile.FieldType.int)).before args0 about1 = true := code_word (m := ⟨2, 1⟩) (meth := k2m1) (c := k2c1) (by decide +kernel) rfl rfl rfl (by decide +kernel)
set_option maxRecDepth 65536 in
theorem w_c5 : (Jvm.Cond.code ({ cls := "com/example/ferrule/ferrule/JsonBudget", name := "spendValue", desc := "()Z" } : Jvm.MethodName) prog_4_method_4_code (1 : Nat) (Option.some Jvm.ClassFile.FieldType.boolean)).before args0 about1 = true := code_word (m := ⟨2, 3⟩) (meth := k2m3) (c := k2c3) (by decide +kernel) rfl rfl rfl (by decide +kernel)
def codes1 : List Jvm.Cond := [Jvm.Cond.code x code maxLocals ret, Jvm.Cond.code ({ cls := "com/example/ferrule/ferrule/JsonBudget", name := "<init>", desc := "()V" } : Jvm.MethodName) prog_4_method_1_code (1 : Nat) (Option.none : Option Jvm.ClassFile.FieldType), Jvm.Cond.code ({ cls := "java/lang/Object", name := "<init>", desc := "()V" } : Jvm.MethodName) object_method_1_code (1 : Nat) (Option.none : Option Jvm.ClassFile.FieldType), Jvm.Cond.code ({ cls := "com/example/ferrule/ferrule/JsonBudget", name := "spendBytes", desc := "(I)V" } : Jvm.MethodName) prog_4_method_3_code (2 : Nat) (Option.none : Option Jvm.ClassFile.FieldType), Jvm.Cond.code ({ cls := "com/example/ferrule/ferrule/JsonBudget", name := "bytesLeft", desc := "()I" } : Jvm.MethodName) prog_4_method_2_code (1 : Nat) (Option.some Jvm.ClassFile.FieldType.int), Jvm.Cond.code ({ cls := "com/example/ferrule/ferrule/JsonBudget", name := "spendValue", desc := "()Z" } : Jvm.MethodName) prog_4_method_4_code (1 : Nat) (Option.some Jvm.ClassFile.FieldType.boolean)]
set_option maxRecDepth 65536 in
theorem codes_eq : words1.filter isCode = codes1 := rfl
theorem w_codes : ∀ c ∈ words1.filter isCode, c.before args0 about1 = true := by
  rw [codes_eq]
  intro c hc
  simp only [codes1, List.mem_cons, List.not_mem_nil, or_false] at hc
  rcases hc with rfl | rfl | rfl | rfl | rfl | rfl
  · exact w_c0
  · exact w_c1
  · exact w_c2
  · exact w_c3
  · exact w_c4
  · exact w_c5
set_option maxRecDepth 65536 in
theorem w_t1 : (words1.take 24).all (fun c => isCode c || c.before args0 about1) = true := by decide +kernel
set_option maxRecDepth 65536 in
theorem w_t2 : (words1.drop 24).all (fun c => isCode c || c.before args0 about1) = true := by decide +kernel
theorem w_tables : (allAtoms (Jvm.Cond.code x code maxLocals ret :: tables_1)).before args0 about1 = true := by
  rw [allAtoms_all]
  show words1.all (fun c => c.before args0 about1) = true
  refine all_split ?_ w_codes
  rw [← List.take_append_drop 24 words1, List.all_append, w_t1, w_t2]
  rfl
set_option maxRecDepth 65536 in
theorem w_case : (Jvm.Cond.and given_1 narrow_1).before args0 about1 = true := by decide +kernel
theorem w_applies : (headSpec (Jvm.Cond.code x code maxLocals ret :: tables_1) room_1).applies x e0.platform about1 = true :=
  (Spec.applies_iff w_frames).mpr ⟨w_running, w_runnable, w_alone, w_named, w_hears, w_ripe, w_room, w_tables⟩
theorem atStart : AtStart classFile x code maxLocals ret World_1 tables_1 room_1 Calls_1 rest_1 Pre_1 launch0 p0 e0 about1 theMethod args0 below0 :=
  ⟨lists_1, trivial, launch0.admits_env _ _ _, launch0.least_env, fairChoices_fair.cas, fairChoices_fair.clock, w_frames, w_args, w_heap, w_applies, trivial, trivial, w_case⟩
end start1
theorem witness_1 : WitnessClaimed_1 := ⟨start1.p0, start1.e0, start1.about1, start1.theMethod, start1.args0, start1.below0, start1.atStart⟩
end Jvm.Pilot.@@N@@
