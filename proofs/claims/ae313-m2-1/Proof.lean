import JvmDerived
import JvmDerived.Pilot.@@N@@Statement
import JvmDerived.Pilot.@@N@@Code
set_option linter.unusedVariables false
set_option linter.unusedSimpArgs false
namespace Jvm.Pilot.@@N@@
open Jvm Jvm.ClassFile Sem Op Lib Jvm.Free Jvm.Stand Jvm.LawKit Jvm.RoadKit Bundle Jvm.Pilot.@@N@@.Jvm.D
section OwnKit
variable {p : Program} {l : Launch} {e : Env} {R : Room} {s : State} {m : MethodId} {args : Array Value} {below : List Frame} {meth : Method} {c : Code} {T : State} {locs : List Loc} {cells slots kc ks : Nat} {Q : Option Value → Heap → List Loc → Prop} {pc q : Nat} {Ls L' : Array Slot} {st : List Value}
def own_Go (p : Program) (e : Env) (below : List Frame) (s : State) (kc ks : Nat) (Q : Option Value → Heap → List Loc → Prop) (U : State) : Prop :=
  ∃ s₂ o, Steps p.tables e below U s₂ ∧ s₂.status = .running ∧ Ended s₂ below o ∧ ∃ v L, o = .returned v ∧ Q v s₂.heap L ∧ FrameEnd s o s₂ L kc ks
theorem own_via {U V : State} (h : ∀ t, Steps p.tables e below V t → Steps p.tables e below U t) (K : own_Go p e below s kc ks Q V) : own_Go p e below s kc ks Q U := by
  obtain ⟨a, b, h1, r⟩ := K; exact ⟨a, b, h _ h1, r⟩
def own_P (w : Value) (h : Heap) (v : Option Value) (h' : Heap) (L : List Loc) : Prop := v = some w ∧ h' = h ∧ L = []
theorem own_iadd (X : Stand p l e R s m args below meth c T locs cells slots) (hx : p.tables.exec = Jvm.exec) {x y : Int32} (hd : decode c.code pc = .ok (.iadd, 1)) (hq : pc + 1 = q)  (K : own_Go p e below s kc ks Q (T.setTop (mkF m q Ls (.int (x + y) :: st)))) : own_Go p e below s kc ks Q (T.setTop (mkF m pc Ls (.int y :: .int x :: st))) := by
  subst hq; exact own_via (fun t => XS.iadd X.here hx rfl hd rfl) K
theorem own_isub (X : Stand p l e R s m args below meth c T locs cells slots) (hx : p.tables.exec = Jvm.exec) {x y : Int32} (hd : decode c.code pc = .ok (.isub, 1)) (hq : pc + 1 = q)  (K : own_Go p e below s kc ks Q (T.setTop (mkF m q Ls (.int (x - y) :: st)))) : own_Go p e below s kc ks Q (T.setTop (mkF m pc Ls (.int y :: .int x :: st))) := by
  subst hq; exact own_via (fun t => XS.isub X.here hx rfl hd rfl) K
theorem own_imul (X : Stand p l e R s m args below meth c T locs cells slots) (hx : p.tables.exec = Jvm.exec) {x y : Int32} (hd : decode c.code pc = .ok (.imul, 1)) (hq : pc + 1 = q)  (K : own_Go p e below s kc ks Q (T.setTop (mkF m q Ls (.int (x * y) :: st)))) : own_Go p e below s kc ks Q (T.setTop (mkF m pc Ls (.int y :: .int x :: st))) := by
  subst hq; exact own_via (fun t => XS.imul X.here hx rfl hd rfl) K
theorem own_iand (X : Stand p l e R s m args below meth c T locs cells slots) (hx : p.tables.exec = Jvm.exec) {x y : Int32} (hd : decode c.code pc = .ok (.iand, 1)) (hq : pc + 1 = q)  (K : own_Go p e below s kc ks Q (T.setTop (mkF m q Ls (.int (x &&& y) :: st)))) : own_Go p e below s kc ks Q (T.setTop (mkF m pc Ls (.int y :: .int x :: st))) := by
  subst hq; exact own_via (fun t => XS.iand X.here hx rfl hd rfl) K
theorem own_ixor (X : Stand p l e R s m args below meth c T locs cells slots) (hx : p.tables.exec = Jvm.exec) {x y : Int32} (hd : decode c.code pc = .ok (.ixor, 1)) (hq : pc + 1 = q)  (K : own_Go p e below s kc ks Q (T.setTop (mkF m q Ls (.int (x ^^^ y) :: st)))) : own_Go p e below s kc ks Q (T.setTop (mkF m pc Ls (.int y :: .int x :: st))) := by
  subst hq; exact own_via (fun t => XT.ixor X.here hx rfl hd rfl) K
theorem own_ior (X : Stand p l e R s m args below meth c T locs cells slots) (hx : p.tables.exec = Jvm.exec) {x y : Int32} (hd : decode c.code pc = .ok (.ior, 1)) (hq : pc + 1 = q)  (K : own_Go p e below s kc ks Q (T.setTop (mkF m q Ls (.int (x ||| y) :: st)))) : own_Go p e below s kc ks Q (T.setTop (mkF m pc Ls (.int y :: .int x :: st))) := by
  subst hq; exact own_via (fun t => XT.ior X.here hx rfl hd rfl) K
theorem own_ishl (X : Stand p l e R s m args below meth c T locs cells slots) (hx : p.tables.exec = Jvm.exec) {x y : Int32} (hd : decode c.code pc = .ok (.ishl, 1)) (hq : pc + 1 = q)  (K : own_Go p e below s kc ks Q (T.setTop (mkF m q Ls (.int (x <<< (y &&& 31)) :: st)))) : own_Go p e below s kc ks Q (T.setTop (mkF m pc Ls (.int y :: .int x :: st))) := by
  subst hq; exact own_via (fun t => XT.ishl X.here hx rfl hd rfl) K
theorem own_ishr (X : Stand p l e R s m args below meth c T locs cells slots) (hx : p.tables.exec = Jvm.exec) {x y : Int32} (hd : decode c.code pc = .ok (.ishr, 1)) (hq : pc + 1 = q)  (K : own_Go p e below s kc ks Q (T.setTop (mkF m q Ls (.int (x >>> (y &&& 31)) :: st)))) : own_Go p e below s kc ks Q (T.setTop (mkF m pc Ls (.int y :: .int x :: st))) := by
  subst hq; exact own_via (fun t => XT.ishr X.here hx rfl hd rfl) K
theorem own_iushr (X : Stand p l e R s m args below meth c T locs cells slots) (hx : p.tables.exec = Jvm.exec) {x y : Int32} (hd : decode c.code pc = .ok (.iushr, 1)) (hq : pc + 1 = q)  (K : own_Go p e below s kc ks Q (T.setTop (mkF m q Ls (.int (XT.ushr x y) :: st)))) : own_Go p e below s kc ks Q (T.setTop (mkF m pc Ls (.int y :: .int x :: st))) := by
  subst hq; exact own_via (fun t => XT.iushr X.here hx rfl hd rfl) K
theorem own_idiv (X : Stand p l e R s m args below meth c T locs cells slots) (hx : p.tables.exec = Jvm.exec) {x y : Int32} (hd : decode c.code pc = .ok (.idiv, 1)) (hq : pc + 1 = q) (hy : y ≠ 0) (K : own_Go p e below s kc ks Q (T.setTop (mkF m q Ls (.int (x / y) :: st)))) : own_Go p e below s kc ks Q (T.setTop (mkF m pc Ls (.int y :: .int x :: st))) := by
  subst hq; exact own_via (fun t => XS.idiv X.here hx rfl hd rfl hy) K
theorem own_irem (X : Stand p l e R s m args below meth c T locs cells slots) (hx : p.tables.exec = Jvm.exec) {x y : Int32} (hd : decode c.code pc = .ok (.irem, 1)) (hq : pc + 1 = q) (hy : y ≠ 0) (K : own_Go p e below s kc ks Q (T.setTop (mkF m q Ls (.int (x % y) :: st)))) : own_Go p e below s kc ks Q (T.setTop (mkF m pc Ls (.int y :: .int x :: st))) := by
  subst hq; exact own_via (fun t => iremM X hx rfl hd rfl hy) K
theorem own_ineg (X : Stand p l e R s m args below meth c T locs cells slots) (hx : p.tables.exec = Jvm.exec) {x : Int32} (hd : decode c.code pc = .ok (.ineg, 1)) (hq : pc + 1 = q)  (K : own_Go p e below s kc ks Q (T.setTop (mkF m q Ls (.int (-x) :: st)))) : own_Go p e below s kc ks Q (T.setTop (mkF m pc Ls (.int x :: st))) := by
  subst hq; exact own_via (fun t => XS.ineg X.here hx rfl hd rfl) K
theorem own_ladd (X : Stand p l e R s m args below meth c T locs cells slots) (hx : p.tables.exec = Jvm.exec) {x y : Int64} (hd : decode c.code pc = .ok (.ladd, 1)) (hq : pc + 1 = q)  (K : own_Go p e below s kc ks Q (T.setTop (mkF m q Ls (.long (x + y) :: st)))) : own_Go p e below s kc ks Q (T.setTop (mkF m pc Ls (.long y :: .long x :: st))) := by
  subst hq; exact own_via (fun t => XT.ladd X.here hx rfl hd rfl) K
theorem own_lsub (X : Stand p l e R s m args below meth c T locs cells slots) (hx : p.tables.exec = Jvm.exec) {x y : Int64} (hd : decode c.code pc = .ok (.lsub, 1)) (hq : pc + 1 = q)  (K : own_Go p e below s kc ks Q (T.setTop (mkF m q Ls (.long (x - y) :: st)))) : own_Go p e below s kc ks Q (T.setTop (mkF m pc Ls (.long y :: .long x :: st))) := by
  subst hq; exact own_via (fun t => XT.lsub X.here hx rfl hd rfl) K
theorem own_lmul (X : Stand p l e R s m args below meth c T locs cells slots) (hx : p.tables.exec = Jvm.exec) {x y : Int64} (hd : decode c.code pc = .ok (.lmul, 1)) (hq : pc + 1 = q)  (K : own_Go p e below s kc ks Q (T.setTop (mkF m q Ls (.long (x * y) :: st)))) : own_Go p e below s kc ks Q (T.setTop (mkF m pc Ls (.long y :: .long x :: st))) := by
  subst hq; exact own_via (fun t => XT.lmul X.here hx rfl hd rfl) K
theorem own_land (X : Stand p l e R s m args below meth c T locs cells slots) (hx : p.tables.exec = Jvm.exec) {x y : Int64} (hd : decode c.code pc = .ok (.land, 1)) (hq : pc + 1 = q)  (K : own_Go p e below s kc ks Q (T.setTop (mkF m q Ls (.long (x &&& y) :: st)))) : own_Go p e below s kc ks Q (T.setTop (mkF m pc Ls (.long y :: .long x :: st))) := by
  subst hq; exact own_via (fun t => XT.land X.here hx rfl hd rfl) K
theorem own_lor (X : Stand p l e R s m args below meth c T locs cells slots) (hx : p.tables.exec = Jvm.exec) {x y : Int64} (hd : decode c.code pc = .ok (.lor, 1)) (hq : pc + 1 = q)  (K : own_Go p e below s kc ks Q (T.setTop (mkF m q Ls (.long (x ||| y) :: st)))) : own_Go p e below s kc ks Q (T.setTop (mkF m pc Ls (.long y :: .long x :: st))) := by
  subst hq; exact own_via (fun t => XT.lor X.here hx rfl hd rfl) K
theorem own_lxor (X : Stand p l e R s m args below meth c T locs cells slots) (hx : p.tables.exec = Jvm.exec) {x y : Int64} (hd : decode c.code pc = .ok (.lxor, 1)) (hq : pc + 1 = q)  (K : own_Go p e below s kc ks Q (T.setTop (mkF m q Ls (.long (x ^^^ y) :: st)))) : own_Go p e below s kc ks Q (T.setTop (mkF m pc Ls (.long y :: .long x :: st))) := by
  subst hq; exact own_via (fun t => XT.lxor X.here hx rfl hd rfl) K
theorem own_ldiv (X : Stand p l e R s m args below meth c T locs cells slots) (hx : p.tables.exec = Jvm.exec) {x y : Int64} (hd : decode c.code pc = .ok (.ldiv, 1)) (hq : pc + 1 = q) (hy : y ≠ 0) (K : own_Go p e below s kc ks Q (T.setTop (mkF m q Ls (.long (x / y) :: st)))) : own_Go p e below s kc ks Q (T.setTop (mkF m pc Ls (.long y :: .long x :: st))) := by
  subst hq; exact own_via (fun t => XT.ldiv X.here hx rfl hd rfl hy) K
theorem own_lshl (X : Stand p l e R s m args below meth c T locs cells slots) (hx : p.tables.exec = Jvm.exec) {x : Int64} {y : Int32} (hd : decode c.code pc = .ok (.lshl, 1)) (hq : pc + 1 = q)  (K : own_Go p e below s kc ks Q (T.setTop (mkF m q Ls (.long (x <<< (y.toInt64 &&& 63)) :: st)))) : own_Go p e below s kc ks Q (T.setTop (mkF m pc Ls (.int y :: .long x :: st))) := by
  subst hq; exact own_via (fun t => XT.lshl X.here hx rfl hd rfl) K
theorem own_lshr (X : Stand p l e R s m args below meth c T locs cells slots) (hx : p.tables.exec = Jvm.exec) {x : Int64} {y : Int32} (hd : decode c.code pc = .ok (.lshr, 1)) (hq : pc + 1 = q)  (K : own_Go p e below s kc ks Q (T.setTop (mkF m q Ls (.long (x >>> (y.toInt64 &&& 63)) :: st)))) : own_Go p e below s kc ks Q (T.setTop (mkF m pc Ls (.int y :: .long x :: st))) := by
  subst hq; exact own_via (fun t => XT.lshr X.here hx rfl hd rfl) K
theorem own_lushr (X : Stand p l e R s m args below meth c T locs cells slots) (hx : p.tables.exec = Jvm.exec) {x : Int64} {y : Int32} (hd : decode c.code pc = .ok (.lushr, 1)) (hq : pc + 1 = q)  (K : own_Go p e below s kc ks Q (T.setTop (mkF m q Ls (.long (XT.ushrL x y) :: st)))) : own_Go p e below s kc ks Q (T.setTop (mkF m pc Ls (.int y :: .long x :: st))) := by
  subst hq; exact own_via (fun t => XT.lushr X.here hx rfl hd rfl) K
theorem own_i2l (X : Stand p l e R s m args below meth c T locs cells slots) (hx : p.tables.exec = Jvm.exec) {x : Int32} (hd : decode c.code pc = .ok (.i2l, 1)) (hq : pc + 1 = q)  (K : own_Go p e below s kc ks Q (T.setTop (mkF m q Ls (.long x.toInt64 :: st)))) : own_Go p e below s kc ks Q (T.setTop (mkF m pc Ls (.int x :: st))) := by
  subst hq; exact own_via (fun t => XT.i2l X.here hx rfl hd rfl) K
theorem own_l2i (X : Stand p l e R s m args below meth c T locs cells slots) (hx : p.tables.exec = Jvm.exec) {x : Int64} (hd : decode c.code pc = .ok (.l2i, 1)) (hq : pc + 1 = q)  (K : own_Go p e below s kc ks Q (T.setTop (mkF m q Ls (.int x.toInt32 :: st)))) : own_Go p e below s kc ks Q (T.setTop (mkF m pc Ls (.long x :: st))) := by
  subst hq; exact own_via (fun t => XT.l2i X.here hx rfl hd rfl) K
theorem own_i2c (X : Stand p l e R s m args below meth c T locs cells slots) (hx : p.tables.exec = Jvm.exec) {x : Int32} (hd : decode c.code pc = .ok (.i2c, 1)) (hq : pc + 1 = q)  (K : own_Go p e below s kc ks Q (T.setTop (mkF m q Ls (.int x.toUInt32.toUInt16.toUInt32.toInt32 :: st)))) : own_Go p e below s kc ks Q (T.setTop (mkF m pc Ls (.int x :: st))) := by
  subst hq; exact own_via (fun t => XT.i2c X.here hx rfl hd rfl) K
theorem own_i2b (X : Stand p l e R s m args below meth c T locs cells slots) (hx : p.tables.exec = Jvm.exec) {x : Int32} (hd : decode c.code pc = .ok (.i2b, 1)) (hq : pc + 1 = q)  (K : own_Go p e below s kc ks Q (T.setTop (mkF m q Ls (.int x.toInt8.toInt32 :: st)))) : own_Go p e below s kc ks Q (T.setTop (mkF m pc Ls (.int x :: st))) := by
  subst hq; exact own_via (fun t => XT.i2b X.here hx rfl hd rfl) K
theorem own_lcmp (X : Stand p l e R s m args below meth c T locs cells slots) (hx : p.tables.exec = Jvm.exec) {x y : Int64} (hd : decode c.code pc = .ok (.lcmp, 1)) (hq : pc + 1 = q)  (K : own_Go p e below s kc ks Q (T.setTop (mkF m q Ls (.int (XT.cmpL x y) :: st)))) : own_Go p e below s kc ks Q (T.setTop (mkF m pc Ls (.long y :: .long x :: st))) := by
  subst hq; exact own_via (fun t => XT.lcmp X.here hx rfl hd rfl) K
theorem own_iconst (X : Stand p l e R s m args below meth c T locs cells slots) (hx : p.tables.exec = Jvm.exec) {i : Int} (v : Int32) (hd : decode c.code pc = .ok (.iconst i, 1)) (hq : pc + 1 = q) (hv : Int32.ofInt i = v) (K : own_Go p e below s kc ks Q (T.setTop (mkF m q Ls (.int v :: st)))) : own_Go p e below s kc ks Q (T.setTop (mkF m pc Ls st)) := by
  subst hq; exact own_via (fun t => XT.iconstV (v := v) X.here hx rfl hd hv) K
theorem own_bipush (X : Stand p l e R s m args below meth c T locs cells slots) (hx : p.tables.exec = Jvm.exec) {i : Int} (v : Int32) (hd : decode c.code pc = .ok (.bipush i, 2)) (hq : pc + 2 = q) (hv : (Int8.ofInt i).toInt32 = v) (K : own_Go p e below s kc ks Q (T.setTop (mkF m q Ls (.int v :: st)))) : own_Go p e below s kc ks Q (T.setTop (mkF m pc Ls st)) := by
  subst hq; exact own_via (fun t => XT.bipushV (v := v) X.here hx rfl hd hv) K
theorem own_sipush (X : Stand p l e R s m args below meth c T locs cells slots) (hx : p.tables.exec = Jvm.exec) {i : Int} (v : Int32) (hd : decode c.code pc = .ok (.sipush i, 3)) (hq : pc + 3 = q) (hv : (Int16.ofInt i).toInt32 = v) (K : own_Go p e below s kc ks Q (T.setTop (mkF m q Ls (.int v :: st)))) : own_Go p e below s kc ks Q (T.setTop (mkF m pc Ls st)) := by
  subst hq; exact own_via (fun t => XT.sipushV (v := v) X.here hx rfl hd hv) K
theorem own_lconst (X : Stand p l e R s m args below meth c T locs cells slots) (hx : p.tables.exec = Jvm.exec) {i : Fin 2} (v : Int64) (hd : decode c.code pc = .ok (.lconst i, 1)) (hq : pc + 1 = q) (hv : Int64.ofNat i = v) (K : own_Go p e below s kc ks Q (T.setTop (mkF m q Ls (.long v :: st)))) : own_Go p e below s kc ks Q (T.setTop (mkF m pc Ls st)) := by
  subst hq; exact own_via (fun t => XT.lconstV (v := v) X.here hx rfl hd hv) K
theorem own_aconstNull (X : Stand p l e R s m args below meth c T locs cells slots) (hx : p.tables.exec = Jvm.exec)  (hd : decode c.code pc = .ok (.aconst_null, 1)) (hq : pc + 1 = q)  (K : own_Go p e below s kc ks Q (T.setTop (mkF m q Ls (.null :: st)))) : own_Go p e below s kc ks Q (T.setTop (mkF m pc Ls st)) := by
  subst hq; exact own_via (fun t => XS.aconstNull X.here hx rfl hd ) K
theorem own_iloadN (X : Stand p l e R s m args below meth c T locs cells slots) (hx : p.tables.exec = Jvm.exec) {k : Fin 4} {v : Int32} (hd : decode c.code pc = .ok (.iload_n k, 1)) (hq : pc + 1 = q) (hl : Ls[k.val]? = some (.val (.int v))) (K : own_Go p e below s kc ks Q (T.setTop (mkF m q Ls (.int v :: st)))) : own_Go p e below s kc ks Q (T.setTop (mkF m pc Ls st)) := by
  subst hq; exact own_via (fun t => XS.iloadN X.here hx rfl hd hl) K
theorem own_iload (X : Stand p l e R s m args below meth c T locs cells slots) (hx : p.tables.exec = Jvm.exec) {k : Nat} {v : Int32} (hd : decode c.code pc = .ok (.iload k, 2)) (hq : pc + 2 = q) (hl : Ls[k]? = some (.val (.int v))) (K : own_Go p e below s kc ks Q (T.setTop (mkF m q Ls (.int v :: st)))) : own_Go p e below s kc ks Q (T.setTop (mkF m pc Ls st)) := by
  subst hq; exact own_via (fun t => XS.iload X.here hx rfl hd hl) K
theorem own_lloadN (X : Stand p l e R s m args below meth c T locs cells slots) (hx : p.tables.exec = Jvm.exec) {k : Fin 4} {v : Int64} (hd : decode c.code pc = .ok (.lload_n k, 1)) (hq : pc + 1 = q) (hl : Ls[k.val]? = some (.val (.long v))) (K : own_Go p e below s kc ks Q (T.setTop (mkF m q Ls (.long v :: st)))) : own_Go p e below s kc ks Q (T.setTop (mkF m pc Ls st)) := by
  subst hq; exact own_via (fun t => XT.lloadN X.here hx rfl hd hl) K
theorem own_lload (X : Stand p l e R s m args below meth c T locs cells slots) (hx : p.tables.exec = Jvm.exec) {k : Nat} {v : Int64} (hd : decode c.code pc = .ok (.lload k, 2)) (hq : pc + 2 = q) (hl : Ls[k]? = some (.val (.long v))) (K : own_Go p e below s kc ks Q (T.setTop (mkF m q Ls (.long v :: st)))) : own_Go p e below s kc ks Q (T.setTop (mkF m pc Ls st)) := by
  subst hq; exact own_via (fun t => XT.lload X.here hx rfl hd hl) K
theorem own_aloadN (X : Stand p l e R s m args below meth c T locs cells slots) (hx : p.tables.exec = Jvm.exec) {k : Fin 4} {v : Value} (hd : decode c.code pc = .ok (.aload_n k, 1)) (hq : pc + 1 = q) (hl : Ls[k.val]? = some (.val v)) (hv : v.isRef = true) (K : own_Go p e below s kc ks Q (T.setTop (mkF m q Ls (v :: st)))) : own_Go p e below s kc ks Q (T.setTop (mkF m pc Ls st)) := by
  subst hq; exact own_via (fun t => XS.aloadN X.here hx rfl hd hl hv) K
theorem own_aload (X : Stand p l e R s m args below meth c T locs cells slots) (hx : p.tables.exec = Jvm.exec) {k : Nat} {v : Value} (hd : decode c.code pc = .ok (.aload k, 2)) (hq : pc + 2 = q) (hl : Ls[k]? = some (.val v)) (hv : v.isRef = true) (K : own_Go p e below s kc ks Q (T.setTop (mkF m q Ls (v :: st)))) : own_Go p e below s kc ks Q (T.setTop (mkF m pc Ls st)) := by
  subst hq; exact own_via (fun t => XS.aload X.here hx rfl hd hl hv) K
theorem own_istoreN (X : Stand p l e R s m args below meth c T locs cells slots) (hx : p.tables.exec = Jvm.exec) {k : Fin 4} {v : Int32} (hd : decode c.code pc = .ok (.istore_n k, 1)) (hq : pc + 1 = q) (hl : storeLocals Ls k.val (.int v) = some L') (K : own_Go p e below s kc ks Q (T.setTop (mkF m q L' st))) : own_Go p e below s kc ks Q (T.setTop (mkF m pc Ls (.int v :: st))) := by
  subst hq; exact own_via (fun t => XS.istoreN X.here hx rfl hd rfl hl) K
theorem own_istore (X : Stand p l e R s m args below meth c T locs cells slots) (hx : p.tables.exec = Jvm.exec) {k : Nat} {v : Int32} (hd : decode c.code pc = .ok (.istore k, 2)) (hq : pc + 2 = q) (hl : storeLocals Ls k (.int v) = some L') (K : own_Go p e below s kc ks Q (T.setTop (mkF m q L' st))) : own_Go p e below s kc ks Q (T.setTop (mkF m pc Ls (.int v :: st))) := by
  subst hq; exact own_via (fun t => XS.istore X.here hx rfl hd rfl hl) K
theorem own_lstoreN (X : Stand p l e R s m args below meth c T locs cells slots) (hx : p.tables.exec = Jvm.exec) {k : Fin 4} {v : Int64} (hd : decode c.code pc = .ok (.lstore_n k, 1)) (hq : pc + 1 = q) (hl : storeLocals Ls k.val (.long v) = some L') (K : own_Go p e below s kc ks Q (T.setTop (mkF m q L' st))) : own_Go p e below s kc ks Q (T.setTop (mkF m pc Ls (.long v :: st))) := by
  subst hq; exact own_via (fun t => XT.lstoreN X.here hx rfl hd rfl hl) K
theorem own_lstore (X : Stand p l e R s m args below meth c T locs cells slots) (hx : p.tables.exec = Jvm.exec) {k : Nat} {v : Int64} (hd : decode c.code pc = .ok (.lstore k, 2)) (hq : pc + 2 = q) (hl : storeLocals Ls k (.long v) = some L') (K : own_Go p e below s kc ks Q (T.setTop (mkF m q L' st))) : own_Go p e below s kc ks Q (T.setTop (mkF m pc Ls (.long v :: st))) := by
  subst hq; exact own_via (fun t => XT.lstore X.here hx rfl hd rfl hl) K
theorem own_astoreN (X : Stand p l e R s m args below meth c T locs cells slots) (hx : p.tables.exec = Jvm.exec) {k : Fin 4} {v : Value} (hd : decode c.code pc = .ok (.astore_n k, 1)) (hq : pc + 1 = q) (hv : v.isRef = true) (hl : storeLocals Ls k.val v = some L') (K : own_Go p e below s kc ks Q (T.setTop (mkF m q L' st))) : own_Go p e below s kc ks Q (T.setTop (mkF m pc Ls (v :: st))) := by
  subst hq; exact own_via (fun t => XS.astoreN X.here hx rfl hd rfl hv hl) K
theorem own_astore (X : Stand p l e R s m args below meth c T locs cells slots) (hx : p.tables.exec = Jvm.exec) {k : Nat} {v : Value} (hd : decode c.code pc = .ok (.astore k, 2)) (hq : pc + 2 = q) (hv : v.isRef = true) (hl : storeLocals Ls k v = some L') (K : own_Go p e below s kc ks Q (T.setTop (mkF m q L' st))) : own_Go p e below s kc ks Q (T.setTop (mkF m pc Ls (v :: st))) := by
  subst hq; exact own_via (fun t => XS.astore X.here hx rfl hd rfl hv hl) K
theorem own_iinc (X : Stand p l e R s m args below meth c T locs cells slots) (hx : p.tables.exec = Jvm.exec) {k : Nat} {i : Int} {x : Int32} (v : Int32) (hd : decode c.code pc = .ok (.iinc k i, 3)) (hq : pc + 3 = q) (hv : Int32.ofInt i = v) (hl : Ls[k]? = some (.val (.int x))) (hl' : storeLocals Ls k (.int (x + v)) = some L') (K : own_Go p e below s kc ks Q (T.setTop (mkF m q L' st))) : own_Go p e below s kc ks Q (T.setTop (mkF m pc Ls st)) := by
  subst hq; exact own_via (fun t => XT.iincV (v := v) X.here hx rfl hd hv hl hl') K
theorem own_dup (X : Stand p l e R s m args below meth c T locs cells slots) (hx : p.tables.exec = Jvm.exec) {v : Value} (hd : decode c.code pc = .ok (.dup, 1)) (hq : pc + 1 = q) (hc : v.category = 1) (K : own_Go p e below s kc ks Q (T.setTop (mkF m q Ls (v :: v :: st)))) : own_Go p e below s kc ks Q (T.setTop (mkF m pc Ls (v :: st))) := by
  subst hq; exact own_via (fun t => XS.dup X.here hx rfl hd rfl hc) K
theorem own_pop (X : Stand p l e R s m args below meth c T locs cells slots) (hx : p.tables.exec = Jvm.exec) {v : Value} (hd : decode c.code pc = .ok (.pop, 1)) (hq : pc + 1 = q) (hc : v.category = 1) (K : own_Go p e below s kc ks Q (T.setTop (mkF m q Ls st))) : own_Go p e below s kc ks Q (T.setTop (mkF m pc Ls (v :: st))) := by
  subst hq; exact own_via (fun t => XT.pop X.here hx rfl hd rfl hc) K
theorem own_dupX1 (X : Stand p l e R s m args below meth c T locs cells slots) (hx : p.tables.exec = Jvm.exec) {v w : Value} (hd : decode c.code pc = .ok (.dup_x1, 1)) (hq : pc + 1 = q) (hc : v.category = 1) (hc' : w.category = 1) (K : own_Go p e below s kc ks Q (T.setTop (mkF m q Ls (v :: w :: v :: st)))) : own_Go p e below s kc ks Q (T.setTop (mkF m pc Ls (v :: w :: st))) := by
  subst hq; exact own_via (fun t => XT.dupX1 X.here hx rfl hd rfl hc hc') K
theorem own_dup2 (X : Stand p l e R s m args below meth c T locs cells slots) (hx : p.tables.exec = Jvm.exec) {v w : Value} (hd : decode c.code pc = .ok (.dup2, 1)) (hq : pc + 1 = q) (hc : v.category = 1) (hc' : w.category = 1) (K : own_Go p e below s kc ks Q (T.setTop (mkF m q Ls (v :: w :: v :: w :: st)))) : own_Go p e below s kc ks Q (T.setTop (mkF m pc Ls (v :: w :: st))) := by
  subst hq; exact own_via (fun t => XT.dup2 X.here hx rfl hd rfl hc hc') K
theorem own_goto (X : Stand p l e R s m args below meth c T locs cells slots) (hx : p.tables.exec = Jvm.exec) {o : Int} (hd : decode c.code pc = .ok (.goto o, 3)) (ho : 0 ≤ (pc : Int) + o) (hp : ((pc : Int) + o).toNat = q) (K : own_Go p e below s kc ks Q (T.setTop (mkF m q Ls st))) : own_Go p e below s kc ks Q (T.setTop (mkF m pc Ls st)) := by
  exact own_via (fun t => XS.goto X.here hx rfl (pc0 := pc) (pc' := q) rfl hd ho hp) K
theorem own_ldc (X : Stand p l e R s m args below meth c T locs cells slots) (hx : p.tables.exec = Jvm.exec) {Z : State} {a0 : Array Value} (hZ : Z.Warmed39 s.vm) {own : String} {i : Nat} {v : Int32} (hown : s.vm.findClass own = some m.cls) (w : (Cond.constant own i v).before a0 Z = true) (hd : decode c.code pc = .ok (.ldc i, 2)) (hq : pc + 2 = q) (K : own_Go p e below s kc ks Q (T.setTop (mkF m q Ls (.int v :: st)))) : own_Go p e below s kc ks Q (T.setTop (mkF m pc Ls st)) := by
  subst hq; exact own_via (fun t => X.ldcI hx hown (mv hZ w) rfl hd) K
theorem own_ldcW (X : Stand p l e R s m args below meth c T locs cells slots) (hx : p.tables.exec = Jvm.exec) {Z : State} {a0 : Array Value} (hZ : Z.Warmed39 s.vm) {own : String} {i : Nat} {v : Int32} (hown : s.vm.findClass own = some m.cls) (w : (Cond.constant own i v).before a0 Z = true) (hd : decode c.code pc = .ok (.ldc_w i, 3)) (hq : pc + 3 = q) (K : own_Go p e below s kc ks Q (T.setTop (mkF m q Ls (.int v :: st)))) : own_Go p e below s kc ks Q (T.setTop (mkF m pc Ls st)) := by
  subst hq; exact own_via (fun t => X.ldcWI hx hown (mv hZ w) rfl hd) K
theorem own_ldc2 (X : Stand p l e R s m args below meth c T locs cells slots) (hx : p.tables.exec = Jvm.exec) {Z : State} {a0 : Array Value} (hZ : Z.Warmed39 s.vm) {own : String} {i : Nat} {v : Int64} (hown : s.vm.findClass own = some m.cls) (w : (Cond.constantLong own i v).before a0 Z = true) (hd : decode c.code pc = .ok (.ldc2_w i, 3)) (hq : pc + 3 = q) (K : own_Go p e below s kc ks Q (T.setTop (mkF m q Ls (.long v :: st)))) : own_Go p e below s kc ks Q (T.setTop (mkF m pc Ls st)) := by
  subst hq; exact own_via (fun t => X.ldc2J hx hown (mv hZ w) rfl hd) K
def own_pos : ClassFile.Cond → Bool | .eq => true | .lt => true | .gt => true | _ => false
def own_base {α : Type} [LT α] : ClassFile.Cond → α → α → Prop | .eq, x, y => x = y | .ne, x, y => x = y | .lt, x, y => x < y | .ge, x, y => x < y | .gt, x, y => y < x | .le, x, y => y < x
theorem own_ii {cd : ClassFile.Cond} {x y : Int32} : (own_base cd x y → if_icmp.holds cd x y = own_pos cd) ∧ (¬ own_base cd x y → if_icmp.holds cd x y = !own_pos cd) := by
  cases cd <;> simp only [own_base, own_pos, Bool.not_true, Bool.not_false]
  · exact ⟨XT.ii_eq_t, XT.ii_eq_f⟩
  · exact ⟨XT.ii_ne_f, XT.ii_ne_t⟩
  · exact ⟨XT.ii_lt_t, XT.ii_lt_f⟩
  · exact ⟨XT.ii_ge_f, XT.ii_ge_t⟩
  · exact ⟨XT.ii_gt_t, XT.ii_gt_f⟩
  · exact ⟨XT.ii_le_f, XT.ii_le_t⟩
theorem own_ll {cd : ClassFile.Cond} {x y : Int64} : (own_base cd x y → ifCond.holds cd (XT.cmpL x y) = own_pos cd) ∧ (¬ own_base cd x y → ifCond.holds cd (XT.cmpL x y) = !own_pos cd) := by
  cases cd <;> simp only [own_base, own_pos, Bool.not_true, Bool.not_false]
  · exact ⟨XT.ll_eq_t, XT.ll_eq_f⟩
  · exact ⟨XT.ll_ne_f, XT.ll_ne_t⟩
  · exact ⟨XT.ll_lt_t, XT.ll_lt_f⟩
  · exact ⟨XT.ll_ge_f, XT.ll_ge_t⟩
  · exact ⟨XT.ll_gt_t, XT.ll_gt_f⟩
  · exact ⟨XT.ll_le_f, XT.ll_le_t⟩
theorem own_icmpP (X : Stand p l e R s m args below meth c T locs cells slots) (hx : p.tables.exec = Jvm.exec) {x y : Int32} {cd : ClassFile.Cond} {o : Int} {pt : Nat} (hd : decode c.code pc = .ok (.if_icmp cd o, 3)) (ho : 0 ≤ (pc : Int) + o) (hp : ((pc : Int) + o).toNat = pt) (hq : pc + 3 = q) (hs : own_pos cd = true) (K1 : own_base cd x y → own_Go p e below s kc ks Q (T.setTop (mkF m pt Ls st))) (K2 : ¬ own_base cd x y → own_Go p e below s kc ks Q (T.setTop (mkF m q Ls st))) : own_Go p e below s kc ks Q (T.setTop (mkF m pc Ls (.int y :: .int x :: st))) := by
  subst hq
  by_cases h : own_base cd x y
  · exact own_via (fun t => XS.icmpYes X.here hx rfl (pc0 := pc) (pc' := pt) rfl hd rfl ((own_ii.1 h).trans hs) ho hp) (K1 h)
  · exact own_via (fun t => XS.icmpNo X.here hx rfl hd rfl ((own_ii.2 h).trans (by rw [hs]; rfl))) (K2 h)
theorem own_icmpM (X : Stand p l e R s m args below meth c T locs cells slots) (hx : p.tables.exec = Jvm.exec) {x y : Int32} {cd : ClassFile.Cond} {o : Int} {pt : Nat} (hd : decode c.code pc = .ok (.if_icmp cd o, 3)) (ho : 0 ≤ (pc : Int) + o) (hp : ((pc : Int) + o).toNat = pt) (hq : pc + 3 = q) (hs : own_pos cd = false) (K1 : ¬ own_base cd x y → own_Go p e below s kc ks Q (T.setTop (mkF m pt Ls st))) (K2 : own_base cd x y → own_Go p e below s kc ks Q (T.setTop (mkF m q Ls st))) : own_Go p e below s kc ks Q (T.setTop (mkF m pc Ls (.int y :: .int x :: st))) := by
  subst hq
  by_cases h : own_base cd x y
  · exact own_via (fun t => XS.icmpNo X.here hx rfl hd rfl ((own_ii.1 h).trans hs)) (K2 h)
  · exact own_via (fun t => XS.icmpYes X.here hx rfl (pc0 := pc) (pc' := pt) rfl hd rfl ((own_ii.2 h).trans (by rw [hs]; rfl)) ho hp) (K1 h)
theorem own_if0P (X : Stand p l e R s m args below meth c T locs cells slots) (hx : p.tables.exec = Jvm.exec) {x : Int32} {cd : ClassFile.Cond} {o : Int} {pt : Nat} (hd : decode c.code pc = .ok (.ifCond cd o, 3)) (ho : 0 ≤ (pc : Int) + o) (hp : ((pc : Int) + o).toNat = pt) (hq : pc + 3 = q) (hs : own_pos cd = true) (K1 : own_base cd x (0 : Int32) → own_Go p e below s kc ks Q (T.setTop (mkF m pt Ls st))) (K2 : ¬ own_base cd x (0 : Int32) → own_Go p e below s kc ks Q (T.setTop (mkF m q Ls st))) : own_Go p e below s kc ks Q (T.setTop (mkF m pc Ls (.int x :: st))) := by
  subst hq
  by_cases h : own_base cd x (0 : Int32)
  · exact own_via (fun t => XS.ifYes X.here hx rfl (pc0 := pc) (pc' := pt) rfl hd rfl ((if0 cd x).trans ((own_ii (y := 0).1 h).trans hs)) ho hp) (K1 h)
  · exact own_via (fun t => XS.ifNo X.here hx rfl hd rfl ((if0 cd x).trans ((own_ii (y := 0).2 h).trans (by rw [hs]; rfl)))) (K2 h)
theorem own_if0M (X : Stand p l e R s m args below meth c T locs cells slots) (hx : p.tables.exec = Jvm.exec) {x : Int32} {cd : ClassFile.Cond} {o : Int} {pt : Nat} (hd : decode c.code pc = .ok (.ifCond cd o, 3)) (ho : 0 ≤ (pc : Int) + o) (hp : ((pc : Int) + o).toNat = pt) (hq : pc + 3 = q) (hs : own_pos cd = false) (K1 : ¬ own_base cd x (0 : Int32) → own_Go p e below s kc ks Q (T.setTop (mkF m pt Ls st))) (K2 : own_base cd x (0 : Int32) → own_Go p e below s kc ks Q (T.setTop (mkF m q Ls st))) : own_Go p e below s kc ks Q (T.setTop (mkF m pc Ls (.int x :: st))) := by
  subst hq
  by_cases h : own_base cd x (0 : Int32)
  · exact own_via (fun t => XS.ifNo X.here hx rfl hd rfl ((if0 cd x).trans ((own_ii (y := 0).1 h).trans hs))) (K2 h)
  · exact own_via (fun t => XS.ifYes X.here hx rfl (pc0 := pc) (pc' := pt) rfl hd rfl ((if0 cd x).trans ((own_ii (y := 0).2 h).trans (by rw [hs]; rfl))) ho hp) (K1 h)
theorem own_ifLP (X : Stand p l e R s m args below meth c T locs cells slots) (hx : p.tables.exec = Jvm.exec) {x y : Int64} {cd : ClassFile.Cond} {o : Int} {pt : Nat} (hd : decode c.code pc = .ok (.ifCond cd o, 3)) (ho : 0 ≤ (pc : Int) + o) (hp : ((pc : Int) + o).toNat = pt) (hq : pc + 3 = q) (hs : own_pos cd = true) (K1 : own_base cd x y → own_Go p e below s kc ks Q (T.setTop (mkF m pt Ls st))) (K2 : ¬ own_base cd x y → own_Go p e below s kc ks Q (T.setTop (mkF m q Ls st))) : own_Go p e below s kc ks Q (T.setTop (mkF m pc Ls (.int (XT.cmpL x y) :: st))) := by
  subst hq
  by_cases h : own_base cd x y
  · exact own_via (fun t => XS.ifYes X.here hx rfl (pc0 := pc) (pc' := pt) rfl hd rfl ((own_ll.1 h).trans hs) ho hp) (K1 h)
  · exact own_via (fun t => XS.ifNo X.here hx rfl hd rfl ((own_ll.2 h).trans (by rw [hs]; rfl))) (K2 h)
theorem own_ifLM (X : Stand p l e R s m args below meth c T locs cells slots) (hx : p.tables.exec = Jvm.exec) {x y : Int64} {cd : ClassFile.Cond} {o : Int} {pt : Nat} (hd : decode c.code pc = .ok (.ifCond cd o, 3)) (ho : 0 ≤ (pc : Int) + o) (hp : ((pc : Int) + o).toNat = pt) (hq : pc + 3 = q) (hs : own_pos cd = false) (K1 : ¬ own_base cd x y → own_Go p e below s kc ks Q (T.setTop (mkF m pt Ls st))) (K2 : own_base cd x y → own_Go p e below s kc ks Q (T.setTop (mkF m q Ls st))) : own_Go p e below s kc ks Q (T.setTop (mkF m pc Ls (.int (XT.cmpL x y) :: st))) := by
  subst hq
  by_cases h : own_base cd x y
  · exact own_via (fun t => XS.ifNo X.here hx rfl hd rfl ((own_ll.1 h).trans hs)) (K2 h)
  · exact own_via (fun t => XS.ifYes X.here hx rfl (pc0 := pc) (pc' := pt) rfl hd rfl ((own_ll.2 h).trans (by rw [hs]; rfl)) ho hp) (K1 h)
theorem own_acmp (X : Stand p l e R s m args below meth c T locs cells slots) (hx : p.tables.exec = Jvm.exec) {cd : ACond} {v w : Value} {o : Int} {same : Bool} (hv : v.isRef = true) (hw : w.isRef = true) (hd : decode c.code pc = .ok (.if_acmp cd o, 3)) (hs : decide (v = w) = same) (ho : 0 ≤ (pc : Int) + o) (hp : q = if acV cd same = true then ((pc : Int) + o).toNat else pc + 3) (K : own_Go p e below s kc ks Q (T.setTop (mkF m q Ls st))) : own_Go p e below s kc ks Q (T.setTop (mkF m pc Ls (w :: v :: st))) := by
  exact own_via (fun t => acmp X hx rfl hv hw (pc0 := pc) rfl hd rfl hs ho hp) K
theorem own_nullY (X : Stand p l e R s m args below meth c T locs cells slots) (hx : p.tables.exec = Jvm.exec) {o : Int} (hd : decode c.code pc = .ok (.ifnull o, 3)) (ho : 0 ≤ (pc : Int) + o) (hp : ((pc : Int) + o).toNat = q) (K : own_Go p e below s kc ks Q (T.setTop (mkF m q Ls st))) : own_Go p e below s kc ks Q (T.setTop (mkF m pc Ls (.null :: st))) := by
  exact own_via (fun t => XS.ifnullYes X.here hx rfl (pc0 := pc) (pc' := q) rfl hd rfl ho hp) K
theorem own_nullN (X : Stand p l e R s m args below meth c T locs cells slots) (hx : p.tables.exec = Jvm.exec) {o : Int} {a : Addr} (hd : decode c.code pc = .ok (.ifnull o, 3)) (hq : pc + 3 = q) (K : own_Go p e below s kc ks Q (T.setTop (mkF m q Ls st))) : own_Go p e below s kc ks Q (T.setTop (mkF m pc Ls (.ref a :: st))) := by
  subst hq; exact own_via (fun t => XS.ifnullNo X.here hx rfl hd rfl) K
theorem own_nonnullY (X : Stand p l e R s m args below meth c T locs cells slots) (hx : p.tables.exec = Jvm.exec) {o : Int} {a : Addr} (hd : decode c.code pc = .ok (.ifnonnull o, 3)) (ho : 0 ≤ (pc : Int) + o) (hp : ((pc : Int) + o).toNat = q) (K : own_Go p e below s kc ks Q (T.setTop (mkF m q Ls st))) : own_Go p e below s kc ks Q (T.setTop (mkF m pc Ls (.ref a :: st))) := by
  exact own_via (fun t => XT.ifnonnullYes X.here hx rfl (pc0 := pc) (pc' := q) rfl hd rfl ho hp) K
theorem own_nonnullN (X : Stand p l e R s m args below meth c T locs cells slots) (hx : p.tables.exec = Jvm.exec) {o : Int} (hd : decode c.code pc = .ok (.ifnonnull o, 3)) (hq : pc + 3 = q) (K : own_Go p e below s kc ks Q (T.setTop (mkF m q Ls st))) : own_Go p e below s kc ks Q (T.setTop (mkF m pc Ls (.null :: st))) := by
  subst hq; exact own_via (fun t => XT.ifnonnullNo X.here hx rfl hd rfl) K
theorem own_retN (X : Stand p l e R s m args below meth c T locs cells slots) (hx : p.tables.exec = Jvm.exec) (hlk : meth.locks = false) {rest : List Value} {z : Int32} {t : FieldType} (ht : t = .boolean ∨ t = .byte ∨ t = .char ∨ t = .short) (hret : meth.sig.returnType = some t) (hd : decode c.code pc = .ok (.ireturn, 1)) (hqq : Q (some (.int (nar t z))) T.heap locs) (hc : cells ≤ kc) (hs : slots ≤ ks)  : own_Go p e below s kc ks Q (T.setTop (mkF m pc Ls (.int z :: rest))) := by
  obtain ⟨fs, hr, hrun, hended, hW, hsame⟩ := X.leave (v := (some (.int (nar t z)))) (fun h => by rw [hret] at h; cases h) hlk
  exact ⟨_, _, retN X hx hret ht hd hr, hrun, hended, _, _, rfl, hqq, ⟨_, rfl⟩, hW, hsame.mono hc hs⟩
theorem own_retI (X : Stand p l e R s m args below meth c T locs cells slots) (hx : p.tables.exec = Jvm.exec) (hlk : meth.locks = false) {rest : List Value} {z : Int32} (hret : meth.sig.returnType = some .int) (hd : decode c.code pc = .ok (.ireturn, 1)) (hqq : Q (some (.int z)) T.heap locs) (hc : cells ≤ kc) (hs : slots ≤ ks)  : own_Go p e below s kc ks Q (T.setTop (mkF m pc Ls (.int z :: rest))) := by
  obtain ⟨fs, hr, hrun, hended, hW, hsame⟩ := X.leave (v := (some (.int z))) (fun h => by rw [hret] at h; cases h) hlk
  exact ⟨_, _, retOut X hx hret rfl (Or.inl ⟨rfl, Or.inl rfl, z, rfl⟩) hd hr, hrun, hended, _, _, rfl, hqq, ⟨_, rfl⟩, hW, hsame.mono hc hs⟩
theorem own_retJ (X : Stand p l e R s m args below meth c T locs cells slots) (hx : p.tables.exec = Jvm.exec) (hlk : meth.locks = false) {rest : List Value} {z : Int64} (hret : meth.sig.returnType = some .long) (hd : decode c.code pc = .ok (.lreturn, 1)) (hqq : Q (some (.long z)) T.heap locs) (hc : cells ≤ kc) (hs : slots ≤ ks)  : own_Go p e below s kc ks Q (T.setTop (mkF m pc Ls (.long z :: rest))) := by
  obtain ⟨fs, hr, hrun, hended, hW, hsame⟩ := X.leave (v := (some (.long z))) (fun h => by rw [hret] at h; cases h) hlk
  exact ⟨_, _, retOut X hx hret rfl (Or.inr (Or.inl ⟨rfl, rfl, z, rfl⟩)) hd hr, hrun, hended, _, _, rfl, hqq, ⟨_, rfl⟩, hW, hsame.mono hc hs⟩
theorem own_retA (X : Stand p l e R s m args below meth c T locs cells slots) (hx : p.tables.exec = Jvm.exec) (hlk : meth.locks = false) {rest : List Value} {w : Value} {t : FieldType} (hw : w.isRef = true) (ht : t.isReference = true) (hn : narrow t w = w) (hret : meth.sig.returnType = some t) (hd : decode c.code pc = .ok (.areturn, 1)) (hqq : Q (some w) T.heap locs) (hc : cells ≤ kc) (hs : slots ≤ ks)  : own_Go p e below s kc ks Q (T.setTop (mkF m pc Ls (w :: rest))) := by
  obtain ⟨fs, hr, hrun, hended, hW, hsame⟩ := X.leave (v := (some w)) (fun h => by rw [hret] at h; cases h) hlk
  exact ⟨_, _, retOut X hx hret hn (Or.inr (Or.inr (Or.inr (Or.inr ⟨rfl, ht, hw⟩)))) hd hr, hrun, hended, _, _, rfl, hqq, ⟨_, rfl⟩, hW, hsame.mono hc hs⟩
theorem own_retV (X : Stand p l e R s m args below meth c T locs cells slots) (hx : p.tables.exec = Jvm.exec) (hlk : meth.locks = false) {rest : List Value} (hret : meth.sig.returnType = none) (hd : decode c.code pc = .ok (.return_, 1)) (hqq : Q none T.heap locs) (hc : cells ≤ kc) (hs : slots ≤ ks)  : own_Go p e below s kc ks Q (T.setTop (mkF m pc Ls [])) := by
  obtain ⟨fs, hr, hrun, hended, hW, hsame⟩ := X.leave (v := none) (fun _ => rfl) hlk
  exact ⟨_, _, X.returnOut hx hret hd hr, hrun, hended, _, _, rfl, hqq, ⟨_, rfl⟩, hW, hsame.mono hc hs⟩
theorem own_callS (X : Stand p l e R s m args below meth c T locs cells slots) (hx : p.tables.exec = Jvm.exec) {Z : State} {a0 : Array Value} {h : Heap} {own : String} {index : Nat} {y : MethodName} {bytes : ByteArray} {maxL : Nat} {ret : Option FieldType} {rm : Room} {W : Nat} {argsL : List Value} {Qc : Option Value → Heap → List Loc → Prop} {ps : List FieldType} {r : Option FieldType} {st0 : List Value} (hZ : Z.Warmed39 s.vm) (hown : s.vm.findClass own = some m.cls) (w1 : (Cond.methodLink own index y).before a0 Z = true) (w2 : (Cond.static y).before a0 Z = true) (w3 : (Cond.initialized y.cls).before a0 Z = true) (w4 : (Cond.code y bytes maxL ret).before a0 Z = true) (hy : y.cls ≠ "java/lang/invoke/MethodHandle" ∧ y.cls ≠ "java/lang/invoke/VarHandle") (hM : MetFree l y (head1 [Cond.code y bytes maxL ret] rm) (fun aa U => aa = argsL.toArray ∧ Z.Warmed39 U.vm ∧ U.heap = h) (fun _ _ _ _ _ => True) (fun _ U o U' => ∃ v L, o = .returned v ∧ Qc v U'.heap L ∧ FrameEnd U o U' L rm.cells rm.slots)) (hpd : parseMethodDescriptor y.desc = some ⟨ps, r⟩) (hlen : argsL.length = ps.length) (eT : T.heap = h) (hml : Ls.size = c.maxLocals) (hst : st0 = argsL.reverse ++ st) (hW : (st.map fun v => v.category).sum ≤ W) (hf : rm.frames + 1 ≤ R.frames) (hl : W + (maxL + 11) + rm.locals ≤ R.locals) (hc : cells + rm.cells ≤ R.cells) (hs : slots + rm.slots ≤ R.slots) (hd : decode c.code pc = .ok (.invokestatic index, 3)) (hq : pc + 3 = q) (K : ∀ v T' L, Stand p l e R s m args below meth c T' (locs ++ L) (cells + rm.cells) (slots + rm.slots) → Qc v T'.heap L → own_Go p e below s kc ks Q (T'.setTop (mkF m q Ls (v.toList ++ st)))) : own_Go p e below s kc ks Q (T.setTop (mkF m pc Ls st0)) := by
  subst hq hst
  obtain ⟨v, _, ⟨T', L', k', n'⟩, -, X', ⟨Lc, hQ, l', y', z'⟩, st'⟩ := Jvm.LawKit.callS X hx hown (mvT hZ w1) (mvT hZ w2) (mvT hZ w3) (mvT hZ w4) hy (backOf (W := W) hM hZ w4 w3 hf hl) (g := mkF m pc Ls (argsL.reverse ++ st)) rfl hml (argsL := argsL) (rest := st) (lenOf hpd hlen) rfl (by show 2 * 0 + _ ≤ _; omega) hd (fun _ _ => ⟨rfl, eT, hc, hs⟩)
  dsimp only [Pt.U, Pt.locs, Pt.cells, Pt.slots] at X' l' y' z' st' hQ
  subst l' y' z'
  exact own_via (fun t => st' t) (K v T' Lc X' hQ)
theorem own_callC (X : Stand p l e R s m args below meth c T locs cells slots) (hx : p.tables.exec = Jvm.exec) {a : Addr} {Z : State} {a0 : Array Value} {h : Heap} {own : String} {index : Nat} {y : MethodName} {bytes : ByteArray} {maxL : Nat} {rm : Room} {W : Nat} {argsL : List Value} {Qc : Option Value → Heap → List Loc → Prop} {ps : List FieldType} {r : Option FieldType} {st0 : List Value} (hZ : Z.Warmed39 s.vm) (hown : s.vm.findClass own = some m.cls) (hy1 : y.name = "<init>") (w1 : (Cond.methodLink own index y).before a0 Z = true) (w2 : (Cond.instanceMethod y).before a0 Z = true) (w3 : (Cond.initialized y.cls).before a0 Z = true) (w4 : (Cond.code y bytes maxL none).before a0 Z = true) (hy : y.cls ≠ "java/lang/invoke/MethodHandle" ∧ y.cls ≠ "java/lang/invoke/VarHandle") (hM : MetFree l y (head1 [Cond.code y bytes maxL none] rm) (fun aa U => aa = (.ref a :: argsL).toArray ∧ Z.Warmed39 U.vm ∧ U.heap = h) (fun _ _ _ _ _ => True) (fun _ U o U' => ∃ v L, o = .returned v ∧ Qc v U'.heap L ∧ FrameEnd U o U' L rm.cells rm.slots)) (hpd : parseMethodDescriptor y.desc = some ⟨ps, r⟩) (hlen : argsL.length = ps.length) (eT : T.heap = h) (hml : Ls.size = c.maxLocals) (hst : st0 = argsL.reverse ++ .ref a :: st) (hW : (st.map fun v => v.category).sum ≤ W) (hf : rm.frames + 1 ≤ R.frames) (hl : W + (maxL + 11) + rm.locals ≤ R.locals) (hc : cells + rm.cells ≤ R.cells) (hs : slots + rm.slots ≤ R.slots) (hd : decode c.code pc = .ok (.invokespecial index, 3)) (hq : pc + 3 = q) (K : ∀ v T' L, Stand p l e R s m args below meth c T' (locs ++ L) (cells + rm.cells) (slots + rm.slots) → Qc v T'.heap L → own_Go p e below s kc ks Q (T'.setTop (mkF m q Ls (v.toList ++ st)))) : own_Go p e below s kc ks Q (T.setTop (mkF m pc Ls st0)) := by
  subst hq hst
  obtain ⟨v, _, ⟨T', L', k', n'⟩, -, X', ⟨Lc, hQ, l', y', z'⟩, st'⟩ := X.specialBack hx hy1 hown (mvT hZ w1) (mvT hZ w2) (mvT hZ w4) hy (backOf (W := W) hM hZ w4 w3 hf hl) (g := mkF m pc Ls (argsL.reverse ++ .ref a :: st)) rfl hml (Steps.refl _) (a := a) (argsL := argsL) (rest := st) (lenOf hpd hlen) rfl (by show 2 * 0 + _ ≤ _; omega) hd (fun _ _ => ⟨rfl, eT, hc, hs⟩)
  dsimp only [Pt.U, Pt.locs, Pt.cells, Pt.slots] at X' l' y' z' st' hQ
  subst l' y' z'
  exact own_via (fun t => st'.trans) (K v T' Lc X' hQ)
theorem own_callV (X : Stand p l e R s m args below meth c T locs cells slots) (hx : p.tables.exec = Jvm.exec) {a : Addr} {C : String} {z : MethodName} {Z : State} {a0 : Array Value} {h : Heap} {own : String} {index : Nat} {y : MethodName} {bytes : ByteArray} {maxL : Nat} {ret : Option FieldType} {rm : Room} {W : Nat} {argsL : List Value} {Qc : Option Value → Heap → List Loc → Prop} {ps : List FieldType} {r : Option FieldType} {st0 : List Value} (hZ : Z.Warmed39 s.vm) (hown : s.vm.findClass own = some m.cls) (w1 : (Cond.methodLink own index y).before a0 Z = true) (w2 : (Cond.declares y).before a0 Z = true) (w5 : (Cond.selects y.cls y y).before a0 Z = true) (w6 : (Cond.selects C y z).before a0 Z = true) (w7 : (Cond.instanceMethod z).before a0 Z = true) (w3 : (Cond.initialized z.cls).before a0 Z = true) (w4 : (Cond.code z bytes maxL ret).before a0 Z = true) (E : Exa Z h a C) (hy : y.cls ≠ "java/lang/invoke/MethodHandle" ∧ y.cls ≠ "java/lang/invoke/VarHandle") (hM : MetFree l z (head1 [Cond.code z bytes maxL ret] rm) (fun aa U => aa = (.ref a :: argsL).toArray ∧ Z.Warmed39 U.vm ∧ U.heap = h) (fun _ _ _ _ _ => True) (fun _ U o U' => ∃ v L, o = .returned v ∧ Qc v U'.heap L ∧ FrameEnd U o U' L rm.cells rm.slots)) (hpd : parseMethodDescriptor y.desc = some ⟨ps, r⟩) (hlen : argsL.length = ps.length) (eT : T.heap = h) (hml : Ls.size = c.maxLocals) (hst : st0 = argsL.reverse ++ .ref a :: st) (hW : (st.map fun v => v.category).sum ≤ W) (hf : rm.frames + 1 ≤ R.frames) (hl : W + (maxL + 11) + rm.locals ≤ R.locals) (hc : cells + rm.cells ≤ R.cells) (hs : slots + rm.slots ≤ R.slots) (hd : decode c.code pc = .ok (.invokevirtual index, 3)) (hq : pc + 3 = q) (K : ∀ v T' L, Stand p l e R s m args below meth c T' (locs ++ L) (cells + rm.cells) (slots + rm.slots) → Qc v T'.heap L → own_Go p e below s kc ks Q (T'.setTop (mkF m q Ls (v.toList ++ st)))) : own_Go p e below s kc ks Q (T.setTop (mkF m pc Ls st0)) := by
  subst hq hst
  obtain ⟨cq, kq, qa, qb, qc⟩ := isOf hZ eT E
  obtain ⟨v, _, ⟨T', L', k', n'⟩, -, X', ⟨Lc, hQ, l', y', z'⟩, st'⟩ := X.virtualBack hx (y := y) (z := z) hown (mvT hZ w1) (mvT hZ w2) (notFace_of_selects (args := #[]) (mvT hZ w5)) (mvT hZ w6) (mvT hZ w7) hy (backOf (W := W) hM hZ w4 w3 hf hl) qa qc (g := mkF m pc Ls (argsL.reverse ++ .ref a :: st)) rfl hml (Steps.refl _) (argsL := argsL) (rest := st) (lenOf hpd hlen) rfl (by show 2 * 0 + _ ≤ _; omega) hd (fun _ _ => ⟨rfl, eT, hc, hs⟩)
  dsimp only [Pt.U, Pt.locs, Pt.cells, Pt.slots] at X' l' y' z' st' hQ
  subst l' y' z'
  exact own_via (fun t => st'.trans) (K v T' Lc X' hQ)
theorem own_new (X : Stand p l e R s m args below meth c T locs cells slots) (hx : p.tables.exec = Jvm.exec) {Z : State} {a0 : Array Value} {h : Heap} (hZ : Z.Warmed39 s.vm) {own : String} {i : Nat} (hown : s.vm.findClass own = some m.cls) {C : String} {n : Nat} (w : (Cond.classLink own i C).before a0 Z = true) (wi : (Cond.instantiable C n).before a0 Z = true) (wz : (Cond.initialized C).before a0 Z = true) (eT : T.heap = h) (hd : decode c.code pc = .ok (.new i, 3)) (hc : cells + 1 ≤ R.cells) (hl : slots + n ≤ R.slots) (hq : pc + 3 = q) (K : ∀ T' h' a, Stand p l e R s m args below meth c T' locs (cells + 1) (slots + n) → T'.heap = h' → a = h.size → Ext h h' → Exa Z h' a C → (∀ {O nm d : String} {ty : FieldType}, Laid Z a0 C O nm d → parseFieldDescriptor d = some ty → Fld Z h' a O nm d (defaultValue ty)) → own_Go p e below s kc ks Q (T'.setTop (mkF m q Ls (.ref a :: st)))) : own_Go p e below s kc ks Q (T.setTop (mkF m pc Ls st)) := by
  subst hq
  obtain ⟨T', h', X', e', E', A', D', -, st'⟩ := newO X hx hZ hown w wi wz eT (g := mkF m pc Ls st) rfl hd hc hl
  exact own_via (fun t => st' t) (K T' h' _ X' e' rfl E' A' D')
theorem own_getF (X : Stand p l e R s m args below meth c T locs cells slots) (hx : p.tables.exec = Jvm.exec) {Z : State} {a0 : Array Value} {h : Heap} (hZ : Z.Warmed39 s.vm) {own : String} {i : Nat} (hown : s.vm.findClass own = some m.cls) {a : Addr} {v : Value} {R0 O n d host : String} (w : (Cond.fieldLink own i R0 n d).before a0 Z = true ∨ (Cond.fieldLinkNest own i R0 n d host).before a0 Z = true) (via : Via Z R0 O n d) (eT : T.heap = h) (F : Fld Z h a O n d v) (hd : decode c.code pc = .ok (.getfield i, 3)) (hq : pc + 3 = q) (K : ∀ T', Stand p l e R s m args below meth c T' locs cells slots → T'.heap = h → own_Go p e below s kc ks Q (T'.setTop (mkF m q Ls (v :: st)))) : own_Go p e below s kc ks Q (T.setTop (mkF m pc Ls (.ref a :: st))) := by
  subst hq
  obtain ⟨T', X', e', st'⟩ := getF X hx hZ hown w via eT F (g := mkF m pc Ls (.ref a :: st)) rfl rfl hd
  exact own_via (fun t => st' t) (K T' X' e')
theorem own_putF (X : Stand p l e R s m args below meth c T locs cells slots) (hx : p.tables.exec = Jvm.exec) {Z : State} {a0 : Array Value} {h : Heap} (hZ : Z.Warmed39 s.vm) {own : String} {i : Nat} (hown : s.vm.findClass own = some m.cls) {a : Addr} {v old : Value} {R0 O n d host C : String} {kk : Nat} {ty : FieldType} (w : (Cond.fieldLink own i R0 n d).before a0 Z = true ∨ (Cond.fieldLinkNest own i R0 n d host).before a0 Z = true) (via : Via Z R0 O n d) (eT : T.heap = h) (F : Fld Z h a O n d old) (E : Exa Z h a C) (L : (Cond.lays C O n d).before a0 Z = true ∨ ((Cond.laysFinal C O n d).before a0 Z = true ∧ own = O ∧ meth.name = "<init>")) (wi : (Cond.instantiable C kk).before a0 Z = true) (hty : parseFieldDescriptor d = some ty) (hn : narrow ty v = v) (hf : fits ty v = true) (hd : decode c.code pc = .ok (.putfield i, 3)) (hq : pc + 3 = q) (K : ∀ T' h', Stand p l e R s m args below meth c T' (locs ++ [⟨a, RoadKit.slotOf Z O n d⟩]) cells slots → T'.heap = h' → Wr h h' a (RoadKit.slotOf Z O n d) v → own_Go p e below s kc ks Q (T'.setTop (mkF m q Ls st))) : own_Go p e below s kc ks Q (T.setTop (mkF m pc Ls (v :: .ref a :: st))) := by
  subst hq
  obtain ⟨T', h', X', e', W', st'⟩ := putF X hx hZ hown w via eT F E L wi hty hn hf (g := mkF m pc Ls (v :: .ref a :: st)) rfl rfl hd
  exact own_via (fun t => st' t) (K T' h' X' e' W')
theorem own_initO (X : Stand p l e R s m args below meth c T locs cells slots) (hx : p.tables.exec = Jvm.exec) {Z : State} {a0 : Array Value} {h : Heap} (hZ : Z.Warmed39 s.vm) {own : String} {i : Nat} (hown : s.vm.findClass own = some m.cls) {a : Addr} {W : Nat} (w1 : (Cond.methodLink own i Lib.objectInit).before a0 Z = true) (w2 : (Cond.instanceMethod Lib.objectInit).before a0 Z = true) (w3 : (Cond.code Lib.objectInit ⟨#[0xb1]⟩ 1 none).before a0 Z = true) (eT : T.heap = h) (hml : Ls.size = c.maxLocals) (hf : 1 ≤ R.frames) (hW : (st.map fun v => v.category).sum ≤ W) (hl : W + 12 ≤ R.locals) (hd : decode c.code pc = .ok (.invokespecial i, 3)) (hq : pc + 3 = q) (K : ∀ T', Stand p l e R s m args below meth c T' locs cells slots → T'.heap = h → own_Go p e below s kc ks Q (T'.setTop (mkF m q Ls st))) : own_Go p e below s kc ks Q (T.setTop (mkF m pc Ls (.ref a :: st))) := by
  subst hq
  obtain ⟨T', X', e', st'⟩ := initO X hx hZ hown w1 w2 w3 eT (g := mkF m pc Ls (.ref a :: st)) rfl hml rfl hd hf (W := W) (by show 2 * 0 + _ ≤ _; omega) hl
  exact own_via (fun t => st' t) (K T' X' e')
theorem own_getS (X : Stand p l e R s m args below meth c T locs cells slots) (hx : p.tables.exec = Jvm.exec) {Z : State} {a0 : Array Value} {h : Heap} (hZ : Z.Warmed39 s.vm) {own : String} {i : Nat} (hown : s.vm.findClass own = some m.cls) {v : Value} {R0 O n d : String} (w : (Cond.fieldLink own i R0 n d).before a0 Z = true) (via : Via Z R0 O n d) (eT : T.heap = h) (F : Sta Z h O n d v) (hd : decode c.code pc = .ok (.getstatic i, 3)) (hq : pc + 3 = q) (K : ∀ T', Stand p l e R s m args below meth c T' locs cells slots → T'.heap = h → own_Go p e below s kc ks Q (T'.setTop (mkF m q Ls (v :: st)))) : own_Go p e below s kc ks Q (T.setTop (mkF m pc Ls st)) := by
  subst hq
  obtain ⟨T', X', e', st'⟩ := getS X hx hZ (host := "") hown w via eT F (g := mkF m pc Ls st) rfl hd
  exact own_via (fun t => st' t) (K T' X' e')
def own_V (h : Heap) (v : Option Value) (h' : Heap) (L : List Loc) : Prop := v = none ∧ h' = h ∧ L = []
def own_Like (X : Stand p l e R s m args below meth c T locs cells slots) (T' : State) : Prop := Stand p l e R s m args below meth c T' locs cells slots ∧ T'.heap = T.heap
def own_A (Z : State) (h : Heap) (a : Addr) (ty : FieldType) (vs : List Value) : Prop := ∃ c : Cell, Arr Z h a c ty ∧ c.slots.toList = vs
theorem own_A.lt {Z : State} {h : Heap} {a : Addr} {ty : FieldType} {vs : List Value} (F : own_A Z h a ty vs) : a < h.size := by obtain ⟨c, A, -⟩ := F; exact A.lt
theorem own_A.ext {Z : State} {h h' : Heap} {a : Addr} {ty : FieldType} {vs : List Value} (F : own_A Z h a ty vs) (E : Ext h h') : own_A Z h' a ty vs := by obtain ⟨c, A, r⟩ := F; exact ⟨c, A.ext E, r⟩
theorem own_A.other {Z : State} {h h' : Heap} {a b : Addr} {ty : FieldType} {vs : List Value} {sl : Nat} {v : Value} (F : own_A Z h b ty vs) (W : Wr h h' a sl v) (q : b ≠ a) : own_A Z h' b ty vs := by obtain ⟨c, A, r⟩ := F; exact ⟨c, A.other W q, r⟩
theorem own_A.keep {Z : State} {h h' : Heap} {a : Addr} {ty : FieldType} {vs : List Value} {ws : List Addr} (F : own_A Z h a ty vs) (K : Keep h h' ws) (q : a ∉ ws) : own_A Z h' a ty vs := by obtain ⟨c, A, r⟩ := F; exact ⟨c, ⟨K.2.1 a c A.1 q, A.2⟩, r⟩
theorem own_A.set {Z : State} {h h' : Heap} {a : Addr} {ty : FieldType} {vs : List Value} {i : Nat} {v : Value} (F : own_A Z h a ty vs) (W : Wr h h' a i v) : own_A Z h' a ty (vs.set i v) := by
  obtain ⟨c, A, rfl⟩ := F; exact ⟨_, A.same W, by simp [Cell.setSlot]⟩
theorem own_in {c : Cell} {j : Int32} {i : Nat} (hn : ¬ j < 0) (hj : j.toNatClampNeg = i) (hi : i < c.slots.toList.length) : ¬ (j < 0 ∨ c.slots.size ≤ j.toNatClampNeg) := by
  rintro (h | h)
  · exact hn h
  · rw [hj] at h; rw [Array.length_toList] at hi; exact absurd hi (Nat.not_lt.mpr h)
theorem own_iaload (X : Stand p l e R s m args below meth c T locs cells slots) (hx : p.tables.exec = Jvm.exec) {Z : State} {h : Heap} (hZ : Z.Warmed39 s.vm) {a : Addr} {j : Int32} {i : Nat} {vs : List Value} (eT : T.heap = h) {v : Value} (F : own_A Z h a .int vs) (hn : ¬ j < 0) (hj : j.toNatClampNeg = i) (hv : vs[i]? = some v) (hd : decode c.code pc = .ok (.iaload, 1)) (hq : pc + 1 = q) (K : own_Go p e below s kc ks Q (T.setTop (mkF m q Ls (v :: st)))) : own_Go p e below s kc ks Q (T.setTop (mkF m pc Ls (.int j :: .ref a :: st))) := by
  subst hq
  obtain ⟨cl, A, rfl⟩ := F
  have hv' : cl.slots[j.toNatClampNeg]? = some v := by rw [hj, ← Array.getElem?_toList]; exact hv
  have hin := own_in (c := cl) hn hj (List.getElem?_eq_some_iff.mp hv).1
  exact own_via (fun t => X.iaload hx (by rw [eT]; exact A.1) (State.isArrayOf_alike hZ.alike A.2.1) A.2.2 hin hv' (g := mkF m pc Ls (.int j :: .ref a :: st)) rfl rfl hd t) K
theorem own_laload (X : Stand p l e R s m args below meth c T locs cells slots) (hx : p.tables.exec = Jvm.exec) {Z : State} {h : Heap} (hZ : Z.Warmed39 s.vm) {a : Addr} {j : Int32} {i : Nat} {vs : List Value} (eT : T.heap = h) {v : Value} (F : own_A Z h a .long vs) (hn : ¬ j < 0) (hj : j.toNatClampNeg = i) (hv : vs[i]? = some v) (hd : decode c.code pc = .ok (.laload, 1)) (hq : pc + 1 = q) (K : own_Go p e below s kc ks Q (T.setTop (mkF m q Ls (v :: st)))) : own_Go p e below s kc ks Q (T.setTop (mkF m pc Ls (.int j :: .ref a :: st))) := by
  subst hq
  obtain ⟨cl, A, rfl⟩ := F
  have hv' : cl.slots[j.toNatClampNeg]? = some v := by rw [hj, ← Array.getElem?_toList]; exact hv
  have hin := own_in (c := cl) hn hj (List.getElem?_eq_some_iff.mp hv).1
  exact own_via (fun t => X.laload hx (by rw [eT]; exact A.1) (State.isArrayOf_alike hZ.alike A.2.1) A.2.2 hin hv' (g := mkF m pc Ls (.int j :: .ref a :: st)) rfl rfl hd t) K
theorem own_caload (X : Stand p l e R s m args below meth c T locs cells slots) (hx : p.tables.exec = Jvm.exec) {Z : State} {h : Heap} (hZ : Z.Warmed39 s.vm) {a : Addr} {j : Int32} {i : Nat} {vs : List Value} (eT : T.heap = h) {v : Value} (F : own_A Z h a .char vs) (hn : ¬ j < 0) (hj : j.toNatClampNeg = i) (hv : vs[i]? = some v) (hd : decode c.code pc = .ok (.caload, 1)) (hq : pc + 1 = q) (K : own_Go p e below s kc ks Q (T.setTop (mkF m q Ls (v :: st)))) : own_Go p e below s kc ks Q (T.setTop (mkF m pc Ls (.int j :: .ref a :: st))) := by
  subst hq
  obtain ⟨cl, A, rfl⟩ := F
  have hv' : cl.slots[j.toNatClampNeg]? = some v := by rw [hj, ← Array.getElem?_toList]; exact hv
  have hin := own_in (c := cl) hn hj (List.getElem?_eq_some_iff.mp hv).1
  exact own_via (fun t => X.caload hx (by rw [eT]; exact A.1) (State.isArrayOf_alike hZ.alike A.2.1) A.2.2 hin hv' (g := mkF m pc Ls (.int j :: .ref a :: st)) rfl rfl hd t) K
theorem own_baload (X : Stand p l e R s m args below meth c T locs cells slots) (hx : p.tables.exec = Jvm.exec) {Z : State} {h : Heap} (hZ : Z.Warmed39 s.vm) {a : Addr} {j : Int32} {i : Nat} {vs : List Value} (eT : T.heap = h) {v : Value} (F : own_A Z h a .byte vs) (hn : ¬ j < 0) (hj : j.toNatClampNeg = i) (hv : vs[i]? = some v) (hd : decode c.code pc = .ok (.baload, 1)) (hq : pc + 1 = q) (K : own_Go p e below s kc ks Q (T.setTop (mkF m q Ls (v :: st)))) : own_Go p e below s kc ks Q (T.setTop (mkF m pc Ls (.int j :: .ref a :: st))) := by
  subst hq
  obtain ⟨cl, A, rfl⟩ := F
  have hv' : cl.slots[j.toNatClampNeg]? = some v := by rw [hj, ← Array.getElem?_toList]; exact hv
  have hin := own_in (c := cl) hn hj (List.getElem?_eq_some_iff.mp hv).1
  exact own_via (fun t => X.baloadBytes hx (by rw [eT]; exact A.1) (State.isArrayOf_alike hZ.alike A.2.1) A.2.2 hin hv' (g := mkF m pc Ls (.int j :: .ref a :: st)) rfl rfl hd t) K
theorem own_zaload (X : Stand p l e R s m args below meth c T locs cells slots) (hx : p.tables.exec = Jvm.exec) {Z : State} {h : Heap} (hZ : Z.Warmed39 s.vm) {a : Addr} {j : Int32} {i : Nat} {vs : List Value} (eT : T.heap = h) {v : Value} (F : own_A Z h a .boolean vs) (hn : ¬ j < 0) (hj : j.toNatClampNeg = i) (hv : vs[i]? = some v) (hd : decode c.code pc = .ok (.baload, 1)) (hq : pc + 1 = q) (K : own_Go p e below s kc ks Q (T.setTop (mkF m q Ls (v :: st)))) : own_Go p e below s kc ks Q (T.setTop (mkF m pc Ls (.int j :: .ref a :: st))) := by
  subst hq
  obtain ⟨cl, A, rfl⟩ := F
  have hv' : cl.slots[j.toNatClampNeg]? = some v := by rw [hj, ← Array.getElem?_toList]; exact hv
  have hin := own_in (c := cl) hn hj (List.getElem?_eq_some_iff.mp hv).1
  exact own_via (fun t => X.baloadBooleans hx (by rw [eT]; exact A.1) (State.isArrayOf_alike hZ.alike A.2.1) A.2.2 hin hv' (g := mkF m pc Ls (.int j :: .ref a :: st)) rfl rfl hd t) K
theorem own_alen (X : Stand p l e R s m args below meth c T locs cells slots) (hx : p.tables.exec = Jvm.exec) {Z : State} {h : Heap} (hZ : Z.Warmed39 s.vm) {a : Addr} {vs : List Value} {ty : FieldType} {n : Int32} (eT : T.heap = h) (F : own_A Z h a ty vs) (hn : vs.length.toInt32 = n) (hd : decode c.code pc = .ok (.arraylength, 1)) (hq : pc + 1 = q) (K : own_Go p e below s kc ks Q (T.setTop (mkF m q Ls (.int n :: st)))) : own_Go p e below s kc ks Q (T.setTop (mkF m pc Ls (.ref a :: st))) := by
  subst hq
  obtain ⟨cl, A, rfl⟩ := F
  rw [Array.length_toList] at hn
  subst hn
  exact own_via (fun t => X.arraylength hx (by rw [eT]; exact A.1) (State.isArrayOf_alike hZ.alike A.2.1) (g := mkF m pc Ls (.ref a :: st)) rfl rfl hd t) K
theorem own_iastore (X : Stand p l e R s m args below meth c T locs cells slots) (hx : p.tables.exec = Jvm.exec) {Z : State} {h : Heap} (hZ : Z.Warmed39 s.vm) {a : Addr} {j : Int32} {i : Nat} {vs : List Value} (eT : T.heap = h) {x : Int32} (F : own_A Z h a .int vs) (hn : ¬ j < 0) (hj : j.toNatClampNeg = i) (hi : i < vs.length) (hd : decode c.code pc = .ok (.iastore, 1)) (hq : pc + 1 = q) (K : ∀ T' h', Stand p l e R s m args below meth c T' (locs ++ [⟨a, i⟩]) cells slots → T'.heap = h' → Wr h h' a i (.int x) → own_A Z h' a .int (vs.set i (.int x)) → own_Go p e below s kc ks Q (T'.setTop (mkF m q Ls st))) : own_Go p e below s kc ks Q (T.setTop (mkF m pc Ls (.int x :: .int j :: .ref a :: st))) := by
  subst hq hj
  have F' := F
  obtain ⟨cl, A, rfl⟩ := F
  have hin := own_in (c := cl) hn rfl hi
  obtain ⟨T', h', X', e', W', st'⟩ := stI X hx hZ eT A hin (g := mkF m pc Ls (.int x :: .int j :: .ref a :: st)) rfl rfl hd
  exact own_via (fun t => st' t) (K T' h' X' e' W' (F'.set W'))
theorem own_lastore (X : Stand p l e R s m args below meth c T locs cells slots) (hx : p.tables.exec = Jvm.exec) {Z : State} {h : Heap} (hZ : Z.Warmed39 s.vm) {a : Addr} {j : Int32} {i : Nat} {vs : List Value} (eT : T.heap = h) {x : Int64} (F : own_A Z h a .long vs) (hn : ¬ j < 0) (hj : j.toNatClampNeg = i) (hi : i < vs.length) (hd : decode c.code pc = .ok (.lastore, 1)) (hq : pc + 1 = q) (K : ∀ T' h', Stand p l e R s m args below meth c T' (locs ++ [⟨a, i⟩]) cells slots → T'.heap = h' → Wr h h' a i (.long x) → own_A Z h' a .long (vs.set i (.long x)) → own_Go p e below s kc ks Q (T'.setTop (mkF m q Ls st))) : own_Go p e below s kc ks Q (T.setTop (mkF m pc Ls (.long x :: .int j :: .ref a :: st))) := by
  subst hq hj
  have F' := F
  obtain ⟨cl, A, rfl⟩ := F
  have hin := own_in (c := cl) hn rfl hi
  obtain ⟨T', h', X', e', W', st'⟩ := stJ X hx hZ eT A hin (g := mkF m pc Ls (.long x :: .int j :: .ref a :: st)) rfl rfl hd
  exact own_via (fun t => st' t) (K T' h' X' e' W' (F'.set W'))
theorem own_castore (X : Stand p l e R s m args below meth c T locs cells slots) (hx : p.tables.exec = Jvm.exec) {Z : State} {h : Heap} (hZ : Z.Warmed39 s.vm) {a : Addr} {j : Int32} {i : Nat} {vs : List Value} (eT : T.heap = h) {x : Int32} (F : own_A Z h a .char vs) (hn : ¬ j < 0) (hj : j.toNatClampNeg = i) (hi : i < vs.length) (hd : decode c.code pc = .ok (.castore, 1)) (hq : pc + 1 = q) (K : ∀ T' h', Stand p l e R s m args below meth c T' (locs ++ [⟨a, i⟩]) cells slots → T'.heap = h' → Wr h h' a i (.int (nar .char x)) → own_A Z h' a .char (vs.set i (.int (nar .char x))) → own_Go p e below s kc ks Q (T'.setTop (mkF m q Ls st))) : own_Go p e below s kc ks Q (T.setTop (mkF m pc Ls (.int x :: .int j :: .ref a :: st))) := by
  subst hq hj
  have F' := F
  obtain ⟨cl, A, rfl⟩ := F
  have hin := own_in (c := cl) hn rfl hi
  obtain ⟨T', h', X', e', W', st'⟩ := stC X hx hZ eT A hin (g := mkF m pc Ls (.int x :: .int j :: .ref a :: st)) rfl rfl hd
  exact own_via (fun t => st' t) (K T' h' X' e' W' (F'.set W'))
theorem own_bastore (X : Stand p l e R s m args below meth c T locs cells slots) (hx : p.tables.exec = Jvm.exec) {Z : State} {h : Heap} (hZ : Z.Warmed39 s.vm) {a : Addr} {j : Int32} {i : Nat} {vs : List Value} (eT : T.heap = h) {x : Int32} (F : own_A Z h a .byte vs) (hn : ¬ j < 0) (hj : j.toNatClampNeg = i) (hi : i < vs.length) (hd : decode c.code pc = .ok (.bastore, 1)) (hq : pc + 1 = q) (K : ∀ T' h', Stand p l e R s m args below meth c T' (locs ++ [⟨a, i⟩]) cells slots → T'.heap = h' → Wr h h' a i (.int x.toInt8.toInt32) → own_A Z h' a .byte (vs.set i (.int x.toInt8.toInt32)) → own_Go p e below s kc ks Q (T'.setTop (mkF m q Ls st))) : own_Go p e below s kc ks Q (T.setTop (mkF m pc Ls (.int x :: .int j :: .ref a :: st))) := by
  subst hq hj
  have F' := F
  obtain ⟨cl, A, rfl⟩ := F
  have hin := own_in (c := cl) hn rfl hi
  obtain ⟨T', h', X', e', W', st'⟩ := stB X hx hZ eT A hin (g := mkF m pc Ls (.int x :: .int j :: .ref a :: st)) rfl rfl hd
  exact own_via (fun t => st' t) (K T' h' X' e' W' (F'.set W'))
theorem own_zastore (X : Stand p l e R s m args below meth c T locs cells slots) (hx : p.tables.exec = Jvm.exec) {Z : State} {h : Heap} (hZ : Z.Warmed39 s.vm) {a : Addr} {j : Int32} {i : Nat} {vs : List Value} (eT : T.heap = h) {x : Int32} (F : own_A Z h a .boolean vs) (hn : ¬ j < 0) (hj : j.toNatClampNeg = i) (hi : i < vs.length) (hd : decode c.code pc = .ok (.bastore, 1)) (hq : pc + 1 = q) (K : ∀ T' h', Stand p l e R s m args below meth c T' (locs ++ [⟨a, i⟩]) cells slots → T'.heap = h' → Wr h h' a i (.int (nar .boolean x)) → own_A Z h' a .boolean (vs.set i (.int (nar .boolean x))) → own_Go p e below s kc ks Q (T'.setTop (mkF m q Ls st))) : own_Go p e below s kc ks Q (T.setTop (mkF m pc Ls (.int x :: .int j :: .ref a :: st))) := by
  subst hq hj
  have F' := F
  obtain ⟨cl, A, rfl⟩ := F
  have hin := own_in (c := cl) hn rfl hi
  obtain ⟨T', h', X', e', W', st'⟩ := stZ X hx hZ eT A hin (g := mkF m pc Ls (.int x :: .int j :: .ref a :: st)) rfl rfl hd
  exact own_via (fun t => st' t) (K T' h' X' e' W' (F'.set W'))
theorem own_newA (X : Stand p l e R s m args below meth c T locs cells slots) (hx : p.tables.exec = Jvm.exec) {Z : State} {a0 : Array Value} {h : Heap} (hZ : Z.Warmed39 s.vm) {aty : ArrayType} {ty : FieldType} {n : Int32} {k cap : Nat} (hty : newarray.typeOf aty = ty) (w : (Cond.arrayClass ty).before a0 Z = true) (eT : T.heap = h) (hn : ¬ n < 0) (hk : n.toNatClampNeg = k) (hcap : k ≤ cap) (hb8 : cap * 8 ≤ 536870912) (hc : cells + 1 ≤ R.cells) (hl : slots + cap ≤ R.slots) (hd : decode c.code pc = .ok (.newarray aty, 2)) (hq : pc + 2 = q) (K : ∀ T' h' a, Stand p l e R s m args below meth c T' locs (cells + 1) (slots + cap) → T'.heap = h' → a = h.size → Ext h h' → own_A Z h' a ty (List.replicate k (defaultValue ty)) → own_Go p e below s kc ks Q (T'.setTop (mkF m q Ls (.ref a :: st)))) : own_Go p e below s kc ks Q (T.setTop (mkF m pc Ls (.int n :: st))) := by
  subst hq hty hk
  obtain ⟨T', h', cA, X', e', E', A', st'⟩ := newP X hx hZ w eT (g := mkF m pc Ls (.int n :: st)) rfl hd rfl hn hcap hb8 hc hl
  exact own_via (fun t => st' t) (K T' h' _ X' e' rfl E' ⟨_, A', by simp [newA]⟩)
theorem own_lswHit (X : Stand p l e R s m args below meth c T locs cells slots) (hx : p.tables.exec = Jvm.exec) {k : Int32} {dflt : Int} {prs : Array (Int × Int)} {len : Nat} {v : Int32} {b off : Int} (hk : k = v) (hd : decode c.code pc = .ok (.lookupswitch dflt prs, len)) (hs : (prs.toList.zip (prs.toList.drop 1)).all (fun (a, next) => a.1 < next.1) = true) (hf : prs.find? (·.1 == v.toInt) = some (b, off)) (ho : 0 ≤ (pc : Int) + off) (hp : ((pc : Int) + off).toNat = q) (K : own_Go p e below s kc ks Q (T.setTop (mkF m q Ls st))) : own_Go p e below s kc ks Q (T.setTop (mkF m pc Ls (.int k :: st))) := by
  subst hk hp; exact own_via (fun t => X.lookupswitchHit hx (g := mkF m pc Ls (.int k :: st)) rfl rfl hd hs hf ho t) K
theorem own_lswMiss (X : Stand p l e R s m args below meth c T locs cells slots) (hx : p.tables.exec = Jvm.exec) {k : Int32} {dflt : Int} {prs : Array (Int × Int)} {len : Nat} (hm : prs.find? (·.1 == k.toInt) = none) (hd : decode c.code pc = .ok (.lookupswitch dflt prs, len)) (hs : (prs.toList.zip (prs.toList.drop 1)).all (fun (a, next) => a.1 < next.1) = true) (ho : 0 ≤ (pc : Int) + dflt) (hp : ((pc : Int) + dflt).toNat = q) (K : own_Go p e below s kc ks Q (T.setTop (mkF m q Ls st))) : own_Go p e below s kc ks Q (T.setTop (mkF m pc Ls (.int k :: st))) := by
  subst hp; exact own_via (fun t => X.lookupswitchMiss hx (g := mkF m pc Ls (.int k :: st)) rfl rfl hd hs hm ho t) K
theorem own_instY (X : Stand p l e R s m args below meth c T locs cells slots) (hx : p.tables.exec = Jvm.exec) {Z : State} {a0 : Array Value} {h : Heap} (hZ : Z.Warmed39 s.vm) {own : String} {i : Nat} (hown : s.vm.findClass own = some m.cls) {a : Addr} {K0 : String} (w : (Cond.classLink own i K0).before a0 Z = true) (eT : T.heap = h) (F : Ins Z h a K0 true) (hd : decode c.code pc = .ok (.instanceof i, 3)) (hq : pc + 3 = q) (K : ∀ T', Stand p l e R s m args below meth c T' locs cells slots → T'.heap = h → own_Go p e below s kc ks Q (T'.setTop (mkF m q Ls (.int 1 :: st)))) : own_Go p e below s kc ks Q (T.setTop (mkF m pc Ls (.ref a :: st))) := by
  subst hq
  obtain ⟨T', X', e', st'⟩ := instY X hx hZ hown w eT F (g := mkF m pc Ls (.ref a :: st)) rfl rfl hd
  exact own_via (fun t => st' t) (K T' X' e')
theorem own_instN (X : Stand p l e R s m args below meth c T locs cells slots) (hx : p.tables.exec = Jvm.exec) {Z : State} {a0 : Array Value} {h : Heap} (hZ : Z.Warmed39 s.vm) {own : String} {i : Nat} (hown : s.vm.findClass own = some m.cls) {a : Addr} {K0 C : String} (w : (Cond.classLink own i K0).before a0 Z = true) (eT : T.heap = h) (E : Exa Z h a C) (F : ∃ c t, Z.vm.findClass C = some c ∧ Z.vm.findClass K0 = some t ∧ Z.vm.assignable c t = false) (hd : decode c.code pc = .ok (.instanceof i, 3)) (hq : pc + 3 = q) (K : ∀ T', Stand p l e R s m args below meth c T' locs cells slots → T'.heap = h → own_Go p e below s kc ks Q (T'.setTop (mkF m q Ls (.int 0 :: st)))) : own_Go p e below s kc ks Q (T.setTop (mkF m pc Ls (.ref a :: st))) := by
  subst hq
  obtain ⟨T', X', e', st'⟩ := instNo X hx hZ hown w eT E F (g := mkF m pc Ls (.ref a :: st)) rfl rfl hd
  exact own_via (fun t => st' t) (K T' X' e')
theorem own_cast (X : Stand p l e R s m args below meth c T locs cells slots) (hx : p.tables.exec = Jvm.exec) {Z : State} {a0 : Array Value} {h : Heap} (hZ : Z.Warmed39 s.vm) {own : String} {i : Nat} (hown : s.vm.findClass own = some m.cls) {a : Addr} {K0 : String} (w : (Cond.classLink own i K0).before a0 Z = true) (eT : T.heap = h) (F : Ins Z h a K0 true) (hd : decode c.code pc = .ok (.checkcast i, 3)) (hq : pc + 3 = q) (K : ∀ T', Stand p l e R s m args below meth c T' locs cells slots → T'.heap = h → own_Go p e below s kc ks Q (T'.setTop (mkF m q Ls (.ref a :: st)))) : own_Go p e below s kc ks Q (T.setTop (mkF m pc Ls (.ref a :: st))) := by
  subst hq
  obtain ⟨T', X', e', st'⟩ := castY X hx hZ hown w eT F (g := mkF m pc Ls (.ref a :: st)) rfl rfl hd
  exact own_via (fun t => st' t) (K T' X' e')
theorem own_inst0 (X : Stand p l e R s m args below meth c T locs cells slots) (hx : p.tables.exec = Jvm.exec) {i : Nat} (hd : decode c.code pc = .ok (.instanceof i, 3)) (hq : pc + 3 = q) (K : own_Go p e below s kc ks Q (T.setTop (mkF m q Ls (.int 0 :: st)))) : own_Go p e below s kc ks Q (T.setTop (mkF m pc Ls (.null :: st))) := by
  subst hq; exact own_via (fun t => X.instanceofNull hx (g := mkF m pc Ls (.null :: st)) rfl (rest := st) rfl hd t) K
theorem own_staKeep {Z : State} {h h' : Heap} {ws : List Addr} {C n d : String} {v : Value} (F : Sta Z h C n d v) (K : Keep h h' ws) (q : ∀ a ∈ ws, ∀ c : Cell, h[a]? = some c → c.vm.isStatics = false) : Sta Z h' C n d v := by
  obtain ⟨cf, i, k, f, st, cell, h1, h2, h3, h4, h5, h6, h7⟩ := F
  exact ⟨cf, i, k, f, st, cell, h1, h2, h3, h4, K.2.1 st cell h5 (fun hm => by rw [q st hm cell h5] at h6; cases h6), h6, h7⟩
theorem own_exaPlain {Z : State} {h : Heap} {a : Addr} {C : String} (E : Exa Z h a C) : ∀ c : Cell, h[a]? = some c → c.vm.isStatics = false := fun c hc => by
  obtain ⟨cell, k, h1, -, -, h4, -⟩ := E
  cases h1.symm.trans hc; exact h4
theorem own_A.plain {Z : State} {h : Heap} {a : Addr} {ty : FieldType} {vs : List Value} (F : own_A Z h a ty vs) : ∀ c : Cell, h[a]? = some c → c.vm.isStatics = false := fun c hc => by
  obtain ⟨cl, A, -⟩ := F
  cases A.1.symm.trans hc; exact A.plain
theorem own_callSP (X : Stand p l e R s m args below meth c T locs cells slots) (hx : p.tables.exec = Jvm.exec) {Z : State} {a0 : Array Value} {h : Heap} {own : String} {index : Nat} {y : MethodName} {bytes : ByteArray} {maxL : Nat} {ret : Option FieldType} {W : Nat} {argsL : List Value} {fr lo : Nat} {w : Value} {ps : List FieldType} {r : Option FieldType} {st0 : List Value} (hZ : Z.Warmed39 s.vm) (hown : s.vm.findClass own = some m.cls) (w1 : (Cond.methodLink own index y).before a0 Z = true) (w2 : (Cond.static y).before a0 Z = true) (w3 : (Cond.initialized y.cls).before a0 Z = true) (w4 : (Cond.code y bytes maxL ret).before a0 Z = true) (hy : y.cls ≠ "java/lang/invoke/MethodHandle" ∧ y.cls ≠ "java/lang/invoke/VarHandle") (hM : MetFree l y (head1 [Cond.code y bytes maxL ret] ({ frames := fr, cells := 0, slots := 0, locals := lo } : Room)) (fun aa U => aa = argsL.toArray ∧ Z.Warmed39 U.vm ∧ U.heap = h) (fun _ _ _ _ _ => True) (fun _ U o U' => ∃ v L, o = .returned v ∧ own_P w h v U'.heap L ∧ FrameEnd U o U' L 0 0)) (hpd : parseMethodDescriptor y.desc = some ⟨ps, r⟩) (hlen : argsL.length = ps.length) (eT : T.heap = h) (hml : Ls.size = c.maxLocals) (hst : st0 = argsL.reverse ++ st) (hW : (st.map fun v => v.category).sum ≤ W) (hf : fr + 1 ≤ R.frames) (hl : W + (maxL + 11) + lo ≤ R.locals) (hc : cells ≤ R.cells) (hs : slots ≤ R.slots) (hd : decode c.code pc = .ok (.invokestatic index, 3)) (hq : pc + 3 = q) (K : ∀ T', Stand p l e R s m args below meth c T' locs cells slots → T'.heap = h → own_Go p e below s kc ks Q (T'.setTop (mkF m q Ls (w :: st)))) : own_Go p e below s kc ks Q (T.setTop (mkF m pc Ls st0)) := by
  refine own_callS X hx hZ hown w1 w2 w3 w4 hy hM hpd hlen eT hml hst hW hf hl hc hs hd hq fun v T' L X' hQ => ?_
  obtain ⟨rfl, eh, rfl⟩ := hQ
  rw [List.append_nil] at X'
  exact K T' X' eh
theorem own_callVP (X : Stand p l e R s m args below meth c T locs cells slots) (hx : p.tables.exec = Jvm.exec) {a : Addr} {C : String} {z : MethodName} {Z : State} {a0 : Array Value} {h : Heap} {own : String} {index : Nat} {y : MethodName} {bytes : ByteArray} {maxL : Nat} {ret : Option FieldType} {W : Nat} {argsL : List Value} {fr lo : Nat} {w : Value} {ps : List FieldType} {r : Option FieldType} {st0 : List Value} (hZ : Z.Warmed39 s.vm) (hown : s.vm.findClass own = some m.cls) (w1 : (Cond.methodLink own index y).before a0 Z = true) (w2 : (Cond.declares y).before a0 Z = true) (w5 : (Cond.selects y.cls y y).before a0 Z = true) (w6 : (Cond.selects C y z).before a0 Z = true) (w7 : (Cond.instanceMethod z).before a0 Z = true) (w3 : (Cond.initialized z.cls).before a0 Z = true) (w4 : (Cond.code z bytes maxL ret).before a0 Z = true) (E : Exa Z h a C) (hy : y.cls ≠ "java/lang/invoke/MethodHandle" ∧ y.cls ≠ "java/lang/invoke/VarHandle") (hM : MetFree l z (head1 [Cond.code z bytes maxL ret] ({ frames := fr, cells := 0, slots := 0, locals := lo } : Room)) (fun aa U => aa = (.ref a :: argsL).toArray ∧ Z.Warmed39 U.vm ∧ U.heap = h) (fun _ _ _ _ _ => True) (fun _ U o U' => ∃ v L, o = .returned v ∧ own_P w h v U'.heap L ∧ FrameEnd U o U' L 0 0)) (hpd : parseMethodDescriptor y.desc = some ⟨ps, r⟩) (hlen : argsL.length = ps.length) (eT : T.heap = h) (hml : Ls.size = c.maxLocals) (hst : st0 = argsL.reverse ++ .ref a :: st) (hW : (st.map fun v => v.category).sum ≤ W) (hf : fr + 1 ≤ R.frames) (hl : W + (maxL + 11) + lo ≤ R.locals) (hc : cells ≤ R.cells) (hs : slots ≤ R.slots) (hd : decode c.code pc = .ok (.invokevirtual index, 3)) (hq : pc + 3 = q) (K : ∀ T', Stand p l e R s m args below meth c T' locs cells slots → T'.heap = h → own_Go p e below s kc ks Q (T'.setTop (mkF m q Ls (w :: st)))) : own_Go p e below s kc ks Q (T.setTop (mkF m pc Ls st0)) := by
  refine own_callV X hx hZ hown w1 w2 w5 w6 w7 w3 w4 E hy hM hpd hlen eT hml hst hW hf hl hc hs hd hq fun v T' L X' hQ => ?_
  obtain ⟨rfl, eh, rfl⟩ := hQ
  rw [List.append_nil] at X'
  exact K T' X' eh
theorem own_callCV (X : Stand p l e R s m args below meth c T locs cells slots) (hx : p.tables.exec = Jvm.exec) {a : Addr} {Z : State} {a0 : Array Value} {h : Heap} {own : String} {index : Nat} {y : MethodName} {bytes : ByteArray} {maxL : Nat} {W : Nat} {argsL : List Value} {fr lo : Nat} {ps : List FieldType} {r : Option FieldType} {st0 : List Value} (hZ : Z.Warmed39 s.vm) (hown : s.vm.findClass own = some m.cls) (hy1 : y.name = "<init>") (w1 : (Cond.methodLink own index y).before a0 Z = true) (w2 : (Cond.instanceMethod y).before a0 Z = true) (w3 : (Cond.initialized y.cls).before a0 Z = true) (w4 : (Cond.code y bytes maxL none).before a0 Z = true) (hy : y.cls ≠ "java/lang/invoke/MethodHandle" ∧ y.cls ≠ "java/lang/invoke/VarHandle") (hM : MetFree l y (head1 [Cond.code y bytes maxL none] ({ frames := fr, cells := 0, slots := 0, locals := lo } : Room)) (fun aa U => aa = (.ref a :: argsL).toArray ∧ Z.Warmed39 U.vm ∧ U.heap = h) (fun _ _ _ _ _ => True) (fun _ U o U' => ∃ v L, o = .returned v ∧ own_V h v U'.heap L ∧ FrameEnd U o U' L 0 0)) (hpd : parseMethodDescriptor y.desc = some ⟨ps, r⟩) (hlen : argsL.length = ps.length) (eT : T.heap = h) (hml : Ls.size = c.maxLocals) (hst : st0 = argsL.reverse ++ .ref a :: st) (hW : (st.map fun v => v.category).sum ≤ W) (hf : fr + 1 ≤ R.frames) (hl : W + (maxL + 11) + lo ≤ R.locals) (hc : cells ≤ R.cells) (hs : slots ≤ R.slots) (hd : decode c.code pc = .ok (.invokespecial index, 3)) (hq : pc + 3 = q) (K : ∀ T', Stand p l e R s m args below meth c T' locs cells slots → T'.heap = h → own_Go p e below s kc ks Q (T'.setTop (mkF m q Ls st))) : own_Go p e below s kc ks Q (T.setTop (mkF m pc Ls st0)) := by
  refine own_callC X hx hZ hown hy1 w1 w2 w3 w4 hy hM hpd hlen eT hml hst hW hf hl hc hs hd hq fun v T' L X' hQ => ?_
  obtain ⟨rfl, eh, rfl⟩ := hQ
  rw [List.append_nil] at X'
  exact K T' X' eh
theorem own_callSV (X : Stand p l e R s m args below meth c T locs cells slots) (hx : p.tables.exec = Jvm.exec) {Z : State} {a0 : Array Value} {h : Heap} {own : String} {index : Nat} {y : MethodName} {bytes : ByteArray} {maxL : Nat} {ret : Option FieldType} {W : Nat} {argsL : List Value} {fr lo : Nat} {ps : List FieldType} {r : Option FieldType} {st0 : List Value} (hZ : Z.Warmed39 s.vm) (hown : s.vm.findClass own = some m.cls) (w1 : (Cond.methodLink own index y).before a0 Z = true) (w2 : (Cond.static y).before a0 Z = true) (w3 : (Cond.initialized y.cls).before a0 Z = true) (w4 : (Cond.code y bytes maxL ret).before a0 Z = true) (hy : y.cls ≠ "java/lang/invoke/MethodHandle" ∧ y.cls ≠ "java/lang/invoke/VarHandle") (hM : MetFree l y (head1 [Cond.code y bytes maxL ret] ({ frames := fr, cells := 0, slots := 0, locals := lo } : Room)) (fun aa U => aa = argsL.toArray ∧ Z.Warmed39 U.vm ∧ U.heap = h) (fun _ _ _ _ _ => True) (fun _ U o U' => ∃ v L, o = .returned v ∧ own_V h v U'.heap L ∧ FrameEnd U o U' L 0 0)) (hpd : parseMethodDescriptor y.desc = some ⟨ps, r⟩) (hlen : argsL.length = ps.length) (eT : T.heap = h) (hml : Ls.size = c.maxLocals) (hst : st0 = argsL.reverse ++ st) (hW : (st.map fun v => v.category).sum ≤ W) (hf : fr + 1 ≤ R.frames) (hl : W + (maxL + 11) + lo ≤ R.locals) (hc : cells ≤ R.cells) (hs : slots ≤ R.slots) (hd : decode c.code pc = .ok (.invokestatic index, 3)) (hq : pc + 3 = q) (K : ∀ T', Stand p l e R s m args below meth c T' locs cells slots → T'.heap = h → own_Go p e below s kc ks Q (T'.setTop (mkF m q Ls st))) : own_Go p e below s kc ks Q (T.setTop (mkF m pc Ls st0)) := by
  refine own_callS X hx hZ hown w1 w2 w3 w4 hy hM hpd hlen eT hml hst hW hf hl hc hs hd hq fun v T' L X' hQ => ?_
  obtain ⟨rfl, eh, rfl⟩ := hQ
  rw [List.append_nil] at X'
  exact K T' X' eh
theorem own_callVV (X : Stand p l e R s m args below meth c T locs cells slots) (hx : p.tables.exec = Jvm.exec) {a : Addr} {C : String} {z : MethodName} {Z : State} {a0 : Array Value} {h : Heap} {own : String} {index : Nat} {y : MethodName} {bytes : ByteArray} {maxL : Nat} {ret : Option FieldType} {W : Nat} {argsL : List Value} {fr lo : Nat} {ps : List FieldType} {r : Option FieldType} {st0 : List Value} (hZ : Z.Warmed39 s.vm) (hown : s.vm.findClass own = some m.cls) (w1 : (Cond.methodLink own index y).before a0 Z = true) (w2 : (Cond.declares y).before a0 Z = true) (w5 : (Cond.selects y.cls y y).before a0 Z = true) (w6 : (Cond.selects C y z).before a0 Z = true) (w7 : (Cond.instanceMethod z).before a0 Z = true) (w3 : (Cond.initialized z.cls).before a0 Z = true) (w4 : (Cond.code z bytes maxL ret).before a0 Z = true) (E : Exa Z h a C) (hy : y.cls ≠ "java/lang/invoke/MethodHandle" ∧ y.cls ≠ "java/lang/invoke/VarHandle") (hM : MetFree l z (head1 [Cond.code z bytes maxL ret] ({ frames := fr, cells := 0, slots := 0, locals := lo } : Room)) (fun aa U => aa = (.ref a :: argsL).toArray ∧ Z.Warmed39 U.vm ∧ U.heap = h) (fun _ _ _ _ _ => True) (fun _ U o U' => ∃ v L, o = .returned v ∧ own_V h v U'.heap L ∧ FrameEnd U o U' L 0 0)) (hpd : parseMethodDescriptor y.desc = some ⟨ps, r⟩) (hlen : argsL.length = ps.length) (eT : T.heap = h) (hml : Ls.size = c.maxLocals) (hst : st0 = argsL.reverse ++ .ref a :: st) (hW : (st.map fun v => v.category).sum ≤ W) (hf : fr + 1 ≤ R.frames) (hl : W + (maxL + 11) + lo ≤ R.locals) (hc : cells ≤ R.cells) (hs : slots ≤ R.slots) (hd : decode c.code pc = .ok (.invokevirtual index, 3)) (hq : pc + 3 = q) (K : ∀ T', Stand p l e R s m args below meth c T' locs cells slots → T'.heap = h → own_Go p e below s kc ks Q (T'.setTop (mkF m q Ls st))) : own_Go p e below s kc ks Q (T.setTop (mkF m pc Ls st0)) := by
  refine own_callV X hx hZ hown w1 w2 w5 w6 w7 w3 w4 E hy hM hpd hlen eT hml hst hW hf hl hc hs hd hq fun v T' L X' hQ => ?_
  obtain ⟨rfl, eh, rfl⟩ := hQ
  rw [List.append_nil] at X'
  exact K T' X' eh
end OwnKit
theorem own_feq {s : State} {args : Array Value} {t : Term} {x : Addr} {C n d : String} {k : Int32} (h : (Jvm.Cond.eq (Term.field t C n d) (Term.int k)).value args s none s [] = some true) (ht : t.eval args s none [] s = some (.ref x)) : Fld s s.heap x C n d (.int k) := by
  obtain ⟨v, w, e1, e2, k1, k2⟩ := cmp_v (Or.inl h)
  obtain rfl : w = .int k := Option.some.inj (e2.symm.trans (Term.int_eval k))
  obtain ⟨z, rfl⟩ := k2
  have hz : z = k := by simpa [Cond.value, e1, e2] using h
  subst hz
  exact Fld.start (by rw [← fld_at ht]; exact e1)
theorem own_pn0 : plainName "com/example/tourloom/tourloom/MatrixLayout" = true := by first | (simp [plainName, overriddenIn]; done) | decide +kernel
theorem own_ef1 (m : MethodId) (a1 : Addr) (p2 : Int32) : entryFrame m #[.ref a1, .int p2] 4 = mkF m 0 #[.val (.ref a1), .val (.int p2), .unset, .unset] [] := by first | (simp [entryFrame, mkF, argsToLocals, Value.category]; done) | rfl
theorem own_d1_0 : decode prog_27_method_4_code 0 = .ok (.iload_n 1, 1) := by decide +kernel
theorem own_d1_1 : decode prog_27_method_4_code 1 = .ok (.i2l, 1) := by decide +kernel
theorem own_d1_2 : decode prog_27_method_4_code 2 = .ok (.iload_n 1, 1) := by decide +kernel
theorem own_d1_3 : decode prog_27_method_4_code 3 = .ok (.iconst 1, 1) := by decide +kernel
theorem own_d1_4 : decode prog_27_method_4_code 4 = .ok (.isub, 1) := by decide +kernel
theorem own_d1_5 : decode prog_27_method_4_code 5 = .ok (.i2l, 1) := by decide +kernel
theorem own_d1_6 : decode prog_27_method_4_code 6 = .ok (.lmul, 1) := by decide +kernel
theorem own_d1_7 : decode prog_27_method_4_code 7 = .ok (.ldc2_w 45, 3) := by decide +kernel
theorem own_d1_10 : decode prog_27_method_4_code 10 = .ok (.ldiv, 1) := by decide +kernel
theorem own_d1_11 : decode prog_27_method_4_code 11 = .ok (.lstore_n 2, 1) := by decide +kernel
theorem own_d1_12 : decode prog_27_method_4_code 12 = .ok (.aload_n 0, 1) := by decide +kernel
theorem own_d1_13 : decode prog_27_method_4_code 13 = .ok (.getfield 35, 3) := by decide +kernel
theorem own_d1_16 : decode prog_27_method_4_code 16 = .ok (.ifCond .eq 7, 3) := by decide +kernel
theorem own_d1_19 : decode prog_27_method_4_code 19 = .ok (.lload_n 2, 1) := by decide +kernel
theorem own_d1_20 : decode prog_27_method_4_code 20 = .ok (.goto 4, 3) := by decide +kernel
theorem own_d1_23 : decode prog_27_method_4_code 23 = .ok (.lconst 0, 1) := by decide +kernel
theorem own_d1_24 : decode prog_27_method_4_code 24 = .ok (.aload_n 0, 1) := by decide +kernel
theorem own_d1_25 : decode prog_27_method_4_code 25 = .ok (.getfield 39, 3) := by decide +kernel
theorem own_d1_28 : decode prog_27_method_4_code 28 = .ok (.ifCond .eq 7, 3) := by decide +kernel
theorem own_d1_31 : decode prog_27_method_4_code 31 = .ok (.iload_n 1, 1) := by decide +kernel
theorem own_d1_32 : decode prog_27_method_4_code 32 = .ok (.goto 4, 3) := by decide +kernel
theorem own_d1_35 : decode prog_27_method_4_code 35 = .ok (.iconst 0, 1) := by decide +kernel
theorem own_d1_36 : decode prog_27_method_4_code 36 = .ok (.i2l, 1) := by decide +kernel
theorem own_d1_37 : decode prog_27_method_4_code 37 = .ok (.ladd, 1) := by decide +kernel
theorem own_d1_38 : decode prog_27_method_4_code 38 = .ok (.aload_n 0, 1) := by decide +kernel
theorem own_d1_39 : decode prog_27_method_4_code 39 = .ok (.getfield 42, 3) := by decide +kernel
theorem own_d1_42 : decode prog_27_method_4_code 42 = .ok (.ifCond .eq 7, 3) := by decide +kernel
theorem own_d1_45 : decode prog_27_method_4_code 45 = .ok (.lload_n 2, 1) := by decide +kernel
theorem own_d1_46 : decode prog_27_method_4_code 46 = .ok (.goto 4, 3) := by decide +kernel
theorem own_d1_49 : decode prog_27_method_4_code 49 = .ok (.lconst 0, 1) := by decide +kernel
theorem own_d1_50 : decode prog_27_method_4_code 50 = .ok (.ladd, 1) := by decide +kernel
theorem own_d1_51 : decode prog_27_method_4_code 51 = .ok (.lreturn, 1) := by decide +kernel
def own_f1 (p2 : Int32) (fb : Int32) (fd : Int32) (fa : Int32) : Int64 := (if fb = (0 : Int32) then (if fd = (0 : Int32) then (if fa = (0 : Int32) then ((0 : Int64) + ((0 : Int32).toInt64)) + (0 : Int64) else ((0 : Int64) + ((0 : Int32).toInt64)) + ((p2.toInt64 * ((p2 - (1 : Int32)).toInt64)) / (2 : Int64))) else (if fa = (0 : Int32) then ((0 : Int64) + p2.toInt64) + (0 : Int64) else ((0 : Int64) + p2.toInt64) + ((p2.toInt64 * ((p2 - (1 : Int32)).toInt64)) / (2 : Int64)))) else (if fd = (0 : Int32) then (if fa = (0 : Int32) then (((p2.toInt64 * ((p2 - (1 : Int32)).toInt64)) / (2 : Int64)) + ((0 : Int32).toInt64)) + (0 : Int64) else (((p2.toInt64 * ((p2 - (1 : Int32)).toInt64)) / (2 : Int64)) + ((0 : Int32).toInt64)) + ((p2.toInt64 * ((p2 - (1 : Int32)).toInt64)) / (2 : Int64))) else (if fa = (0 : Int32) then (((p2.toInt64 * ((p2 - (1 : Int32)).toInt64)) / (2 : Int64)) + p2.toInt64) + (0 : Int64) else (((p2.toInt64 * ((p2 - (1 : Int32)).toInt64)) / (2 : Int64)) + p2.toInt64) + ((p2.toInt64 * ((p2 - (1 : Int32)).toInt64)) / (2 : Int64)))))
set_option maxRecDepth 65536 in
set_option maxHeartbeats 40000000 in
theorem rm1 (l : Launch) (Z : State) (a0 : Array Value) (hw : ∀ d ∈ tables_1, d.before a0 Z = true) (ws : List Jvm.Cond) (a1 : Addr) (p2 : Int32) (fb : Int32) (fd : Int32) (fa : Int32) (h0 : Heap) (F0p : Fld Z h0 a1 "com/example/tourloom/tourloom/MatrixLayout" "below" "Z" (.int fb)) (F1p : Fld Z h0 a1 "com/example/tourloom/tourloom/MatrixLayout" "diagonal" "Z" (.int fd)) (F2p : Fld Z h0 a1 "com/example/tourloom/tourloom/MatrixLayout" "above" "Z" (.int fa)) :
    MetFree l (⟨"com/example/tourloom/tourloom/MatrixLayout", "weightCount", "(I)J"⟩ : MethodName) (head1 (Jvm.Cond.code (⟨"com/example/tourloom/tourloom/MatrixLayout", "weightCount", "(I)J"⟩ : MethodName) prog_27_method_4_code 4 (some .long) :: ws) ({ frames := 0, cells := 0, slots := 0, locals := 0 } : Room)) (fun a U => a = #[.ref a1, .int p2] ∧ Z.Warmed39 U.vm ∧ U.heap = h0) (fun _ _ _ _ _ => True) (fun _ U o U' => ∃ v L, o = .returned v ∧ own_P (.long (own_f1 p2 fb fd fa)) h0 v U'.heap L ∧ FrameEnd U o U' L ({ frames := 0, cells := 0, slots := 0, locals := 0 } : Room).cells ({ frames := 0, cells := 0, slots := 0, locals := 0 } : Room).slots) := by
  refine MetFree.of_bodySF (plainFor_of_name own_pn0) hisR ?_
  intro p e s m args below meth c s₁ Bd hml0 hP hK
  obtain ⟨rfl, hZ, hh⟩ := hP
  have hx := Bd.exec
  have hby := Bd.bytes
  have hml : c.maxLocals = 4 := hml0
  have hown : s.vm.findClass "com/example/tourloom/tourloom/MatrixLayout" = some m.cls := findClass_of_methodNamed Bd.named
  have hnm := (name_of_methodNamed Bd.named Bd.method).1
  have hlk : meth.locks = false := BodyLoose.notSynchronized Bd
  have X0 : Stand p l e ({ frames := 0, cells := 0, slots := 0, locals := 0 } : Room) s m #[.ref a1, .int p2] below meth c s₁ [] 0 0 := Stand.of_body Bd
  have e0 : s₁.heap = h0 := by rw [← hh, Bd.state]; rfl
  show own_Go p e below s 0 0 (own_P (.long (own_f1 p2 fb fd fa)) h0) (s₁.setTop (entryFrame m #[.ref a1, .int p2] 4))
  rw [own_ef1]
  refine own_iloadN X0 hx (hb hby own_d1_0) (q := 1) rfl rfl ?_
  refine own_i2l X0 hx (hb hby own_d1_1) (q := 2) rfl ?_
  refine own_iloadN X0 hx (hb hby own_d1_2) (q := 3) rfl rfl ?_
  refine own_iconst X0 hx (v := (1 : Int32)) (hb hby own_d1_3) (q := 4) rfl rfl ?_
  refine own_isub X0 hx (hb hby own_d1_4) (q := 5) rfl ?_
  refine own_i2l X0 hx (hb hby own_d1_5) (q := 6) rfl ?_
  refine own_lmul X0 hx (hb hby own_d1_6) (q := 7) rfl ?_
  refine own_ldc2 X0 hx hZ hown (hw _ (List.mem_of_getElem? (i := 10) rfl)) (hb hby own_d1_7) (q := 10) rfl ?_
  refine own_ldiv X0 hx (hb hby own_d1_10) (q := 11) rfl (by decide) ?_
  refine own_lstoreN (L' := #[.val (.ref a1), .val (.int p2), .val (.long ((p2.toInt64 * ((p2 - (1 : Int32)).toInt64)) / (2 : Int64))), .second]) X0 hx (hb hby own_d1_11) (q := 12) rfl rfl ?_
  refine own_aloadN X0 hx (hb hby own_d1_12) (q := 13) rfl rfl rfl ?_
  refine own_getF X0 hx hZ hown (host := "") (Or.inl (hw _ (List.mem_of_getElem? (i := 11) rfl))) Via.refl e0 F0p (hb hby own_d1_13) (q := 16) rfl (fun T1 X2 e3 => ?_)
  refine own_if0P X2 hx (hb hby own_d1_16) (cd := .eq) (x := fb) (pt := 23) (q := 19) (by decide) (by decide) rfl rfl (fun (c1 : fb = (0 : Int32)) => ?_) (fun (c1 : ¬ (fb = (0 : Int32))) => ?_)
  · refine own_lconst X2 hx (v := (0 : Int64)) (hb hby own_d1_23) (q := 24) rfl rfl ?_
    refine own_aloadN X2 hx (hb hby own_d1_24) (q := 25) rfl rfl rfl ?_
    refine own_getF X2 hx hZ hown (host := "") (Or.inl (hw _ (List.mem_of_getElem? (i := 13) rfl))) Via.refl e3 F1p (hb hby own_d1_25) (q := 28) rfl (fun T4 X5 e6 => ?_)
    refine own_if0P X5 hx (hb hby own_d1_28) (cd := .eq) (x := fd) (pt := 35) (q := 31) (by decide) (by decide) rfl rfl (fun (c2 : fd = (0 : Int32)) => ?_) (fun (c2 : ¬ (fd = (0 : Int32))) => ?_)
    · refine own_iconst X5 hx (v := (0 : Int32)) (hb hby own_d1_35) (q := 36) rfl rfl ?_
      refine own_i2l X5 hx (hb hby own_d1_36) (q := 37) rfl ?_
      refine own_ladd X5 hx (hb hby own_d1_37) (q := 38) rfl ?_
      refine own_aloadN X5 hx (hb hby own_d1_38) (q := 39) rfl rfl rfl ?_
      refine own_getF X5 hx hZ hown (host := "") (Or.inl (hw _ (List.mem_of_getElem? (i := 15) rfl))) Via.refl e6 F2p (hb hby own_d1_39) (q := 42) rfl (fun T7 X8 e9 => ?_)
      refine own_if0P X8 hx (hb hby own_d1_42) (cd := .eq) (x := fa) (pt := 49) (q := 45) (by decide) (by decide) rfl rfl (fun (c3 : fa = (0 : Int32)) => ?_) (fun (c3 : ¬ (fa = (0 : Int32))) => ?_)
      · refine own_lconst X8 hx (v := (0 : Int64)) (hb hby own_d1_49) (q := 50) rfl rfl ?_
        refine own_ladd X8 hx (hb hby own_d1_50) (q := 51) rfl ?_
        refine own_retJ X8 hx hlk Bd.returns (hb hby own_d1_51) ?_ (by decide) (by decide)
        have r : own_f1 p2 fb fd fa = ((0 : Int64) + ((0 : Int32).toInt64)) + (0 : Int64) := by rw [own_f1, if_pos c1, if_pos c2, if_pos c3]
        exact ⟨by rw [r] <;> rfl, e9, rfl⟩
      · refine own_lloadN X8 hx (hb hby own_d1_45) (q := 46) rfl rfl ?_
        refine own_goto X8 hx (hb hby own_d1_46) (q := 50) (by decide) (by decide) ?_
        refine own_ladd X8 hx (hb hby own_d1_50) (q := 51) rfl ?_
        refine own_retJ X8 hx hlk Bd.returns (hb hby own_d1_51) ?_ (by decide) (by decide)
        have r : own_f1 p2 fb fd fa = ((0 : Int64) + ((0 : Int32).toInt64)) + ((p2.toInt64 * ((p2 - (1 : Int32)).toInt64)) / (2 : Int64)) := by rw [own_f1, if_pos c1, if_pos c2, if_neg c3]
        exact ⟨by rw [r] <;> rfl, e9, rfl⟩
    · refine own_iloadN X5 hx (hb hby own_d1_31) (q := 32) rfl rfl ?_
      refine own_goto X5 hx (hb hby own_d1_32) (q := 36) (by decide) (by decide) ?_
      refine own_i2l X5 hx (hb hby own_d1_36) (q := 37) rfl ?_
      refine own_ladd X5 hx (hb hby own_d1_37) (q := 38) rfl ?_
      refine own_aloadN X5 hx (hb hby own_d1_38) (q := 39) rfl rfl rfl ?_
      refine own_getF X5 hx hZ hown (host := "") (Or.inl (hw _ (List.mem_of_getElem? (i := 15) rfl))) Via.refl e6 F2p (hb hby own_d1_39) (q := 42) rfl (fun T10 X11 e12 => ?_)
      refine own_if0P X11 hx (hb hby own_d1_42) (cd := .eq) (x := fa) (pt := 49) (q := 45) (by decide) (by decide) rfl rfl (fun (c4 : fa = (0 : Int32)) => ?_) (fun (c4 : ¬ (fa = (0 : Int32))) => ?_)
      · refine own_lconst X11 hx (v := (0 : Int64)) (hb hby own_d1_49) (q := 50) rfl rfl ?_
        refine own_ladd X11 hx (hb hby own_d1_50) (q := 51) rfl ?_
        refine own_retJ X11 hx hlk Bd.returns (hb hby own_d1_51) ?_ (by decide) (by decide)
        have r : own_f1 p2 fb fd fa = ((0 : Int64) + p2.toInt64) + (0 : Int64) := by rw [own_f1, if_pos c1, if_neg c2, if_pos c4]
        exact ⟨by rw [r] <;> rfl, e12, rfl⟩
      · refine own_lloadN X11 hx (hb hby own_d1_45) (q := 46) rfl rfl ?_
        refine own_goto X11 hx (hb hby own_d1_46) (q := 50) (by decide) (by decide) ?_
        refine own_ladd X11 hx (hb hby own_d1_50) (q := 51) rfl ?_
        refine own_retJ X11 hx hlk Bd.returns (hb hby own_d1_51) ?_ (by decide) (by decide)
        have r : own_f1 p2 fb fd fa = ((0 : Int64) + p2.toInt64) + ((p2.toInt64 * ((p2 - (1 : Int32)).toInt64)) / (2 : Int64)) := by rw [own_f1, if_pos c1, if_neg c2, if_neg c4]
        exact ⟨by rw [r] <;> rfl, e12, rfl⟩
  · refine own_lloadN X2 hx (hb hby own_d1_19) (q := 20) rfl rfl ?_
    refine own_goto X2 hx (hb hby own_d1_20) (q := 24) (by decide) (by decide) ?_
    refine own_aloadN X2 hx (hb hby own_d1_24) (q := 25) rfl rfl rfl ?_
    refine own_getF X2 hx hZ hown (host := "") (Or.inl (hw _ (List.mem_of_getElem? (i := 13) rfl))) Via.refl e3 F1p (hb hby own_d1_25) (q := 28) rfl (fun T13 X14 e15 => ?_)
    refine own_if0P X14 hx (hb hby own_d1_28) (cd := .eq) (x := fd) (pt := 35) (q := 31) (by decide) (by decide) rfl rfl (fun (c5 : fd = (0 : Int32)) => ?_) (fun (c5 : ¬ (fd = (0 : Int32))) => ?_)
    · refine own_iconst X14 hx (v := (0 : Int32)) (hb hby own_d1_35) (q := 36) rfl rfl ?_
      refine own_i2l X14 hx (hb hby own_d1_36) (q := 37) rfl ?_
      refine own_ladd X14 hx (hb hby own_d1_37) (q := 38) rfl ?_
      refine own_aloadN X14 hx (hb hby own_d1_38) (q := 39) rfl rfl rfl ?_
      refine own_getF X14 hx hZ hown (host := "") (Or.inl (hw _ (List.mem_of_getElem? (i := 15) rfl))) Via.refl e15 F2p (hb hby own_d1_39) (q := 42) rfl (fun T16 X17 e18 => ?_)
      refine own_if0P X17 hx (hb hby own_d1_42) (cd := .eq) (x := fa) (pt := 49) (q := 45) (by decide) (by decide) rfl rfl (fun (c6 : fa = (0 : Int32)) => ?_) (fun (c6 : ¬ (fa = (0 : Int32))) => ?_)
      · refine own_lconst X17 hx (v := (0 : Int64)) (hb hby own_d1_49) (q := 50) rfl rfl ?_
        refine own_ladd X17 hx (hb hby own_d1_50) (q := 51) rfl ?_
        refine own_retJ X17 hx hlk Bd.returns (hb hby own_d1_51) ?_ (by decide) (by decide)
        have r : own_f1 p2 fb fd fa = (((p2.toInt64 * ((p2 - (1 : Int32)).toInt64)) / (2 : Int64)) + ((0 : Int32).toInt64)) + (0 : Int64) := by rw [own_f1, if_neg c1, if_pos c5, if_pos c6]
        exact ⟨by rw [r] <;> rfl, e18, rfl⟩
      · refine own_lloadN X17 hx (hb hby own_d1_45) (q := 46) rfl rfl ?_
        refine own_goto X17 hx (hb hby own_d1_46) (q := 50) (by decide) (by decide) ?_
        refine own_ladd X17 hx (hb hby own_d1_50) (q := 51) rfl ?_
        refine own_retJ X17 hx hlk Bd.returns (hb hby own_d1_51) ?_ (by decide) (by decide)
        have r : own_f1 p2 fb fd fa = (((p2.toInt64 * ((p2 - (1 : Int32)).toInt64)) / (2 : Int64)) + ((0 : Int32).toInt64)) + ((p2.toInt64 * ((p2 - (1 : Int32)).toInt64)) / (2 : Int64)) := by rw [own_f1, if_neg c1, if_pos c5, if_neg c6]
        exact ⟨by rw [r] <;> rfl, e18, rfl⟩
    · refine own_iloadN X14 hx (hb hby own_d1_31) (q := 32) rfl rfl ?_
      refine own_goto X14 hx (hb hby own_d1_32) (q := 36) (by decide) (by decide) ?_
      refine own_i2l X14 hx (hb hby own_d1_36) (q := 37) rfl ?_
      refine own_ladd X14 hx (hb hby own_d1_37) (q := 38) rfl ?_
      refine own_aloadN X14 hx (hb hby own_d1_38) (q := 39) rfl rfl rfl ?_
      refine own_getF X14 hx hZ hown (host := "") (Or.inl (hw _ (List.mem_of_getElem? (i := 15) rfl))) Via.refl e15 F2p (hb hby own_d1_39) (q := 42) rfl (fun T19 X20 e21 => ?_)
      refine own_if0P X20 hx (hb hby own_d1_42) (cd := .eq) (x := fa) (pt := 49) (q := 45) (by decide) (by decide) rfl rfl (fun (c7 : fa = (0 : Int32)) => ?_) (fun (c7 : ¬ (fa = (0 : Int32))) => ?_)
      · refine own_lconst X20 hx (v := (0 : Int64)) (hb hby own_d1_49) (q := 50) rfl rfl ?_
        refine own_ladd X20 hx (hb hby own_d1_50) (q := 51) rfl ?_
        refine own_retJ X20 hx hlk Bd.returns (hb hby own_d1_51) ?_ (by decide) (by decide)
        have r : own_f1 p2 fb fd fa = (((p2.toInt64 * ((p2 - (1 : Int32)).toInt64)) / (2 : Int64)) + p2.toInt64) + (0 : Int64) := by rw [own_f1, if_neg c1, if_neg c5, if_pos c7]
        exact ⟨by rw [r] <;> rfl, e21, rfl⟩
      · refine own_lloadN X20 hx (hb hby own_d1_45) (q := 46) rfl rfl ?_
        refine own_goto X20 hx (hb hby own_d1_46) (q := 50) (by decide) (by decide) ?_
        refine own_ladd X20 hx (hb hby own_d1_50) (q := 51) rfl ?_
        refine own_retJ X20 hx hlk Bd.returns (hb hby own_d1_51) ?_ (by decide) (by decide)
        have r : own_f1 p2 fb fd fa = (((p2.toInt64 * ((p2 - (1 : Int32)).toInt64)) / (2 : Int64)) + p2.toInt64) + ((p2.toInt64 * ((p2 - (1 : Int32)).toInt64)) / (2 : Int64)) := by rw [own_f1, if_neg c1, if_neg c5, if_neg c7]
        exact ⟨by rw [r] <;> rfl, e21, rfl⟩
theorem own_tri (n : Int) (h : 0 ≤ n) : n * (n - 1) % 2 = 0 := by
  have : n % 2 = 0 ∨ n % 2 = 1 := by omega
  rcases this with h | h
  · rw [Int.mul_emod, h]; simp
  · rw [Int.mul_emod, show (n - 1) % 2 = 0 by omega]; simp
theorem own_nums (x : Int32) (h : 0 ≤ x.toInt) : (x.toInt64 * (x - 1).toInt64 / 2).toInt = x.toInt * (x.toInt - 1) / 2 ∧ (x.toInt64 * x.toInt64).toInt = x.toInt * x.toInt ∧ (x.toInt64 * (x.toInt64 - 1) / 2).toInt = x.toInt * (x.toInt - 1) / 2 ∧ (x.toInt64 * (x.toInt64 + 1) / 2).toInt = x.toInt * (x.toInt + 1) / 2 ∧ x.toInt64.toInt = x.toInt := by
  have h1 := rng32 x
  have e1 : (x - 1).toInt = x.toInt - 1 := by
    have a := c_isub x 1; have b := rng32 (x - 1); simp only [Int32.reduceToInt] at a; omega
  have e2 : x.toInt64.toInt = x.toInt := c_i2l x
  have e3 : (x - 1).toInt64.toInt = x.toInt - 1 := (c_i2l _).trans e1
  have e4 : (x.toInt64 - 1).toInt = x.toInt - 1 := by
    have a := c_lsub x.toInt64 1; have b := rng64 (x.toInt64 - 1); simp only [Int64.reduceToInt] at a; omega
  have e5 : (x.toInt64 + 1).toInt = x.toInt + 1 := by
    have a := c_ladd x.toInt64 1; have b := rng64 (x.toInt64 + 1); simp only [Int64.reduceToInt] at a; omega
  have bnd : ∀ z : Int, -1 ≤ z → z ≤ 2147483648 → -2147483648 ≤ x.toInt * z ∧ x.toInt * z ≤ 4611686018427387904 := fun z hz hz' => by
    have q1 := mc (a := x.toInt) (b := z) (l1 := 0) (h1 := 2147483648) (l2 := -1) (h2 := 2147483648) (by omega) (by omega) hz hz'
    omega
  have mul : ∀ y : Int64, -1 ≤ y.toInt → y.toInt ≤ 2147483648 → (x.toInt64 * y).toInt = x.toInt * y.toInt := fun y hy hy' => by
    have a := c_lmul x.toInt64 y; have b := rng64 (x.toInt64 * y); rw [e2] at a; have d := bnd _ hy hy'; omega
  have dv : ∀ y : Int64, 0 ≤ y.toInt → (y / 2).toInt = y.toInt / 2 := fun y hy => (c_ldiv y 2 2 (by decide) (by decide)).1 hy
  have nn : ∀ z : Int, 0 ≤ z ∨ (z = -1 ∧ x.toInt = 0) → 0 ≤ x.toInt * z := fun z hz => by
    rcases hz with hz | ⟨rfl, hx⟩
    · exact Int.mul_nonneg h hz
    · rw [hx]; decide
  have z1 : 0 ≤ x.toInt - 1 ∨ (x.toInt - 1 = -1 ∧ x.toInt = 0) := by omega
  refine ⟨?_, ?_, ?_, ?_, e2⟩
  · have m1 := mul (x - 1).toInt64 (by omega) (by omega)
    rw [e3] at m1
    rw [dv _ (by rw [m1]; exact nn _ z1), m1]
  · have m1 := mul x.toInt64 (by omega) (by omega)
    rw [m1, e2]
  · have m1 := mul (x.toInt64 - 1) (by omega) (by omega)
    rw [e4] at m1
    rw [dv _ (by rw [m1]; exact nn _ z1), m1]
  · have m1 := mul (x.toInt64 + 1) (by omega) (by omega)
    rw [e5] at m1
    rw [dv _ (by rw [m1]; exact nn _ (Or.inl (by omega))), m1]
theorem own_arith (x : Int32) (h : 0 ≤ x.toInt) : own_f1 x 1 1 1 = x.toInt64 * x.toInt64 ∧ own_f1 x 0 0 1 = x.toInt64 * (x.toInt64 - 1) / 2 ∧ own_f1 x 1 1 0 = x.toInt64 * (x.toInt64 + 1) / 2 ∧ own_f1 x 0 1 1 = x.toInt64 * (x.toInt64 + 1) / 2 := by
  obtain ⟨e1, e2, e3, e4, e5⟩ := own_nums x h
  have h1 := rng32 x
  have t := own_tri x.toInt h
  have q1 : x.toInt * (x.toInt + 1) = x.toInt * (x.toInt - 1) + 2 * x.toInt := by rw [Int.mul_add, Int.mul_sub]; omega
  have q2 : x.toInt * x.toInt = x.toInt * (x.toInt - 1) + x.toInt := by rw [Int.mul_sub]; omega
  have q3 := mc (a := x.toInt) (b := x.toInt - 1) (l1 := 0) (h1 := 2147483648) (l2 := -1) (h2 := 2147483648) (by omega) (by omega) (by omega) (by omega)
  have d : (1 : Int32) = 0 ↔ False := by decide
  have i0 : (0 : Int32).toInt64 = 0 := by decide
  simp only [own_f1, d, if_false, if_true, ← Int64.toInt_inj, e2, e3, e4, q1, q2, i0]
  generalize x.toInt * (x.toInt - 1) = M at *
  generalize hT : x.toInt64 * (x - 1).toInt64 / 2 = t1 at *
  have r0 := rng64 t1
  have a1 := c_ladd t1 x.toInt64
  have b1 := rng64 (t1 + x.toInt64)
  have a2 := c_ladd (t1 + x.toInt64) t1
  have b2 := rng64 (t1 + x.toInt64 + t1)
  have a3 := c_ladd (t1 + x.toInt64) 0
  have b3 := rng64 (t1 + x.toInt64 + 0)
  have a4 := c_ladd (0 : Int64) 0
  have b4 := rng64 ((0 : Int64) + 0)
  have a5 := c_ladd ((0 : Int64) + 0) t1
  have b5 := rng64 ((0 : Int64) + 0 + t1)
  have a6 := c_ladd (0 : Int64) x.toInt64
  have b6 := rng64 ((0 : Int64) + x.toInt64)
  have a7 := c_ladd ((0 : Int64) + x.toInt64) t1
  have b7 := rng64 ((0 : Int64) + x.toInt64 + t1)
  simp only [Int64.reduceToInt] at *
  refine ⟨?_, ?_, ?_, ?_⟩ <;> omega
theorem own_pos31 (x : Int32) : 0 ≤ (x &&& (2147483647 : Int32)).toInt := by
  have h := c_mask x 2147483647 31 (by decide) (by decide)
  rw [h]; omega
theorem own_pd0 : parseMethodDescriptor "(I)J" = some ⟨[.int], some .long⟩ := by decide +kernel
theorem own_pn2 : plainName "com/example/tourloom/tourloom/MatrixLayoutWeightCountPinLaw" = true := by first | (simp [plainName, overriddenIn]; done) | decide +kernel
theorem own_ef0 (m : MethodId) (p1 : Int32) : entryFrame m #[.int p1] maxLocals = mkF m 0 #[.val (.int p1), .unset, .unset, .unset, .unset, .unset, .unset, .unset, .unset, .unset, .unset, .unset, .unset, .unset] [] := by first | (simp [entryFrame, mkF, argsToLocals, Value.category, maxLocals]; done) | rfl
def own_Q0 (n0 : Nat) (v : Option Value) (h : Heap) (L : List Loc) : Prop := v = some (.int 1) ∧ Fr n0 L
set_option maxRecDepth 65536 in
set_option maxHeartbeats 40000000 in
theorem rm0 (l : Launch) (Z : State) (a0 : Array Value) (hw : ∀ d ∈ tables_1, d.before a0 Z = true) (ws : List Jvm.Cond) (p1 : Int32) (h0 : Heap) (n0 : Nat) (Z0 : n0 ≤ h0.size) {s0 s1 s2 s3 : Addr} (ES0 : Exa Z h0 s0 "com/example/tourloom/tourloom/MatrixLayout") (SS0 : Sta Z h0 "com/example/tourloom/tourloom/MatrixLayout" "FULL_MATRIX" "Lcom/example/tourloom/tourloom/MatrixLayout;" (.ref s0)) (FS1 : Fld Z h0 s0 "com/example/tourloom/tourloom/MatrixLayout" "below" "Z" (.int (1 : Int32))) (FS2 : Fld Z h0 s0 "com/example/tourloom/tourloom/MatrixLayout" "diagonal" "Z" (.int (1 : Int32))) (FS3 : Fld Z h0 s0 "com/example/tourloom/tourloom/MatrixLayout" "above" "Z" (.int (1 : Int32))) (ES1 : Exa Z h0 s1 "com/example/tourloom/tourloom/MatrixLayout") (SS1 : Sta Z h0 "com/example/tourloom/tourloom/MatrixLayout" "UPPER_ROW" "Lcom/example/tourloom/tourloom/MatrixLayout;" (.ref s1)) (FS5 : Fld Z h0 s1 "com/example/tourloom/tourloom/MatrixLayout" "below" "Z" (.int (0 : Int32))) (FS6 : Fld Z h0 s1 "com/example/tourloom/tourloom/MatrixLayout" "diagonal" "Z" (.int (0 : Int32))) (FS7 : Fld Z h0 s1 "com/example/tourloom/tourloom/MatrixLayout" "above" "Z" (.int (1 : Int32))) (ES2 : Exa Z h0 s2 "com/example/tourloom/tourloom/MatrixLayout") (SS2 : Sta Z h0 "com/example/tourloom/tourloom/MatrixLayout" "LOWER_DIAG_ROW" "Lcom/example/tourloom/tourloom/MatrixLayout;" (.ref s2)) (FS9 : Fld Z h0 s2 "com/example/tourloom/tourloom/MatrixLayout" "below" "Z" (.int (1 : Int32))) (FS10 : Fld Z h0 s2 "com/example/tourloom/tourloom/MatrixLayout" "diagonal" "Z" (.int (1 : Int32))) (FS11 : Fld Z h0 s2 "com/example/tourloom/tourloom/MatrixLayout" "above" "Z" (.int (0 : Int32))) (ES3 : Exa Z h0 s3 "com/example/tourloom/tourloom/MatrixLayout") (SS3 : Sta Z h0 "com/example/tourloom/tourloom/MatrixLayout" "UPPER_DIAG_ROW" "Lcom/example/tourloom/tourloom/MatrixLayout;" (.ref s3)) (FS13 : Fld Z h0 s3 "com/example/tourloom/tourloom/MatrixLayout" "below" "Z" (.int (0 : Int32))) (FS14 : Fld Z h0 s3 "com/example/tourloom/tourloom/MatrixLayout" "diagonal" "Z" (.int (1 : Int32))) (FS15 : Fld Z h0 s3 "com/example/tourloom/tourloom/MatrixLayout" "above" "Z" (.int (1 : Int32))) :
    MetFree l x (head1 (Jvm.Cond.code x code maxLocals ret :: ws) room_1) (fun a U => a = #[.int p1] ∧ Z.Warmed39 U.vm ∧ U.heap = h0) (fun _ _ _ _ _ => True) (fun _ U o U' => ∃ v L, o = .returned v ∧ own_Q0 n0 v U'.heap L ∧ FrameEnd U o U' L 0 0) := by
  refine MetFree.of_bodySF (plainFor_of_name own_pn2) hisR ?_
  intro p e s m args below meth c s₁ Bd hml0 hP hK
  obtain ⟨rfl, hZ, hh⟩ := hP
  have hx := Bd.exec
  have hby := Bd.bytes
  have hml : c.maxLocals = 14 := hml0
  have hown : s.vm.findClass "com/example/tourloom/tourloom/MatrixLayoutWeightCountPinLaw" = some m.cls := findClass_of_methodNamed Bd.named
  have hnm := (name_of_methodNamed Bd.named Bd.method).1
  have hlk : meth.locks = false := BodyLoose.notSynchronized Bd
  have X0 : Stand p l e room_1 s m #[.int p1] below meth c s₁ [] 0 0 := Stand.of_body Bd
  have e0 : s₁.heap = h0 := by rw [← hh, Bd.state]; rfl
  have N0 := Fr.nil n0
  show own_Go p e below s 0 0 (own_Q0 n0) (s₁.setTop (entryFrame m #[.int p1] maxLocals))
  rw [own_ef0]
  refine own_iloadN X0 hx (hb hby at_0) (q := 1) rfl rfl ?_
  refine own_ldc X0 hx hZ hown (hw _ (List.mem_of_getElem? (i := 0) rfl)) (hb hby at_1) (q := 3) rfl ?_
  refine own_iand X0 hx (hb hby at_3) (q := 4) rfl ?_
  refine own_istoreN (L' := #[.val (.int p1), .val (.int (p1 &&& (2147483647 : Int32))), .unset, .unset, .unset, .unset, .unset, .unset, .unset, .unset, .unset, .unset, .unset, .unset]) X0 hx (hb hby at_4) (q := 5) rfl rfl ?_
  refine own_iloadN X0 hx (hb hby at_5) (q := 6) rfl rfl ?_
  refine own_i2l X0 hx (hb hby at_6) (q := 7) rfl ?_
  refine own_lstoreN (L' := #[.val (.int p1), .val (.int (p1 &&& (2147483647 : Int32))), .val (.long ((p1 &&& (2147483647 : Int32)).toInt64)), .second, .unset, .unset, .unset, .unset, .unset, .unset, .unset, .unset, .unset, .unset]) X0 hx (hb hby at_7) (q := 8) rfl rfl ?_
  refine own_lloadN X0 hx (hb hby at_8) (q := 9) rfl rfl ?_
  refine own_lloadN X0 hx (hb hby at_9) (q := 10) rfl rfl ?_
  refine own_lmul X0 hx (hb hby at_10) (q := 11) rfl ?_
  refine own_lstore (L' := #[.val (.int p1), .val (.int (p1 &&& (2147483647 : Int32))), .val (.long ((p1 &&& (2147483647 : Int32)).toInt64)), .second, .val (.long (((p1 &&& (2147483647 : Int32)).toInt64) * ((p1 &&& (2147483647 : Int32)).toInt64))), .second, .unset, .unset, .unset, .unset, .unset, .unset, .unset, .unset]) X0 hx (hb hby at_11) (q := 13) rfl rfl ?_
  refine own_lloadN X0 hx (hb hby at_13) (q := 14) rfl rfl ?_
  refine own_lloadN X0 hx (hb hby at_14) (q := 15) rfl rfl ?_
  refine own_lconst X0 hx (v := (1 : Int64)) (hb hby at_15) (q := 16) rfl rfl ?_
  refine own_lsub X0 hx (hb hby at_16) (q := 17) rfl ?_
  refine own_lmul X0 hx (hb hby at_17) (q := 18) rfl ?_
  refine own_ldc2 X0 hx hZ hown (hw _ (List.mem_of_getElem? (i := 1) rfl)) (hb hby at_18) (q := 21) rfl ?_
  refine own_ldiv X0 hx (hb hby at_21) (q := 22) rfl (by decide) ?_
  refine own_lstore (L' := #[.val (.int p1), .val (.int (p1 &&& (2147483647 : Int32))), .val (.long ((p1 &&& (2147483647 : Int32)).toInt64)), .second, .val (.long (((p1 &&& (2147483647 : Int32)).toInt64) * ((p1 &&& (2147483647 : Int32)).toInt64))), .second, .val (.long ((((p1 &&& (2147483647 : Int32)).toInt64) * (((p1 &&& (2147483647 : Int32)).toInt64) - (1 : Int64))) / (2 : Int64))), .second, .unset, .unset, .unset, .unset, .unset, .unset]) X0 hx (hb hby at_22) (q := 24) rfl rfl ?_
  refine own_lloadN X0 hx (hb hby at_24) (q := 25) rfl rfl ?_
  refine own_lloadN X0 hx (hb hby at_25) (q := 26) rfl rfl ?_
  refine own_lconst X0 hx (v := (1 : Int64)) (hb hby at_26) (q := 27) rfl rfl ?_
  refine own_ladd X0 hx (hb hby at_27) (q := 28) rfl ?_
  refine own_lmul X0 hx (hb hby at_28) (q := 29) rfl ?_
  refine own_ldc2 X0 hx hZ hown (hw _ (List.mem_of_getElem? (i := 1) rfl)) (hb hby at_29) (q := 32) rfl ?_
  refine own_ldiv X0 hx (hb hby at_32) (q := 33) rfl (by decide) ?_
  refine own_lstore (L' := #[.val (.int p1), .val (.int (p1 &&& (2147483647 : Int32))), .val (.long ((p1 &&& (2147483647 : Int32)).toInt64)), .second, .val (.long (((p1 &&& (2147483647 : Int32)).toInt64) * ((p1 &&& (2147483647 : Int32)).toInt64))), .second, .val (.long ((((p1 &&& (2147483647 : Int32)).toInt64) * (((p1 &&& (2147483647 : Int32)).toInt64) - (1 : Int64))) / (2 : Int64))), .second, .val (.long ((((p1 &&& (2147483647 : Int32)).toInt64) * (((p1 &&& (2147483647 : Int32)).toInt64) + (1 : Int64))) / (2 : Int64))), .second, .unset, .unset, .unset, .unset]) X0 hx (hb hby at_33) (q := 35) rfl rfl ?_
  refine own_getS X0 hx hZ hown (hw _ (List.mem_of_getElem? (i := 2) rfl)) Via.refl e0 SS0 (hb hby at_35) (q := 38) rfl (fun T22 X23 e24 => ?_)
  refine own_iloadN X23 hx (hb hby at_38) (q := 39) rfl rfl ?_
  refine own_callVP X23 hx hZ hown (hw _ (List.mem_of_getElem? (i := 5) rfl)) (hw _ (List.mem_of_getElem? (i := 6) rfl)) (hw _ (List.mem_of_getElem? (i := 8) rfl)) (hw _ (List.mem_of_getElem? (i := 8) rfl)) (hw _ (List.mem_of_getElem? (i := 7) rfl)) (hw _ (List.mem_of_getElem? (i := 3) rfl)) (hw _ (List.mem_of_getElem? (i := 9) rfl)) ES0 (by decide) (rm1 l Z a0 hw [] s0 (p1 &&& (2147483647 : Int32)) (1 : Int32) (1 : Int32) (1 : Int32) h0 FS1 FS2 FS3) own_pd0 rfl e24 (by rw [hml]; rfl) (argsL := [.int (p1 &&& (2147483647 : Int32))]) (st := []) rfl (W := 0) (Nat.le_of_eq rfl) (by decide) (by decide) (by decide) (by decide) (hb hby at_39) (q := 42) rfl (fun T25 X26 e27 => ?_)
  refine own_lload X26 hx (hb hby at_42) (q := 44) rfl rfl ?_
  refine own_lcmp X26 hx (hb hby at_44) (q := 45) rfl ?_
  refine own_ifLM X26 hx (hb hby at_45) (cd := .ne) (x := own_f1 (p1 &&& (2147483647 : Int32)) (1 : Int32) (1 : Int32) (1 : Int32)) (y := ((p1 &&& (2147483647 : Int32)).toInt64) * ((p1 &&& (2147483647 : Int32)).toInt64)) (pt := 52) (q := 48) (by decide) (by decide) rfl rfl (fun h => False.elim (h ((own_arith _ (own_pos31 _)).1 : (own_f1 (p1 &&& (2147483647 : Int32)) (1 : Int32) (1 : Int32) (1 : Int32)) = (((p1 &&& (2147483647 : Int32)).toInt64) * ((p1 &&& (2147483647 : Int32)).toInt64))))) (fun _ => ?_)
  refine own_iconst X26 hx (v := (1 : Int32)) (hb hby at_48) (q := 49) rfl rfl ?_
  refine own_goto X26 hx (hb hby at_49) (q := 53) (by decide) (by decide) ?_
  refine own_istore (L' := #[.val (.int p1), .val (.int (p1 &&& (2147483647 : Int32))), .val (.long ((p1 &&& (2147483647 : Int32)).toInt64)), .second, .val (.long (((p1 &&& (2147483647 : Int32)).toInt64) * ((p1 &&& (2147483647 : Int32)).toInt64))), .second, .val (.long ((((p1 &&& (2147483647 : Int32)).toInt64) * (((p1 &&& (2147483647 : Int32)).toInt64) - (1 : Int64))) / (2 : Int64))), .second, .val (.long ((((p1 &&& (2147483647 : Int32)).toInt64) * (((p1 &&& (2147483647 : Int32)).toInt64) + (1 : Int64))) / (2 : Int64))), .second, .val (.int (1 : Int32)), .unset, .unset, .unset]) X26 hx (hb hby at_53) (q := 55) rfl rfl ?_
  refine own_getS X26 hx hZ hown (hw _ (List.mem_of_getElem? (i := 17) rfl)) Via.refl e27 SS1 (hb hby at_55) (q := 58) rfl (fun T28 X29 e30 => ?_)
  refine own_iloadN X29 hx (hb hby at_58) (q := 59) rfl rfl ?_
  refine own_callVP X29 hx hZ hown (hw _ (List.mem_of_getElem? (i := 5) rfl)) (hw _ (List.mem_of_getElem? (i := 6) rfl)) (hw _ (List.mem_of_getElem? (i := 8) rfl)) (hw _ (List.mem_of_getElem? (i := 8) rfl)) (hw _ (List.mem_of_getElem? (i := 7) rfl)) (hw _ (List.mem_of_getElem? (i := 3) rfl)) (hw _ (List.mem_of_getElem? (i := 9) rfl)) ES1 (by decide) (rm1 l Z a0 hw [] s1 (p1 &&& (2147483647 : Int32)) (0 : Int32) (0 : Int32) (1 : Int32) h0 FS5 FS6 FS7) own_pd0 rfl e30 (by rw [hml]; rfl) (argsL := [.int (p1 &&& (2147483647 : Int32))]) (st := []) rfl (W := 0) (Nat.le_of_eq rfl) (by decide) (by decide) (by decide) (by decide) (hb hby at_59) (q := 62) rfl (fun T31 X32 e33 => ?_)
  refine own_lload X32 hx (hb hby at_62) (q := 64) rfl rfl ?_
  refine own_lcmp X32 hx (hb hby at_64) (q := 65) rfl ?_
  refine own_ifLM X32 hx (hb hby at_65) (cd := .ne) (x := own_f1 (p1 &&& (2147483647 : Int32)) (0 : Int32) (0 : Int32) (1 : Int32)) (y := (((p1 &&& (2147483647 : Int32)).toInt64) * (((p1 &&& (2147483647 : Int32)).toInt64) - (1 : Int64))) / (2 : Int64)) (pt := 72) (q := 68) (by decide) (by decide) rfl rfl (fun h => False.elim (h ((own_arith _ (own_pos31 _)).2.1 : (own_f1 (p1 &&& (2147483647 : Int32)) (0 : Int32) (0 : Int32) (1 : Int32)) = ((((p1 &&& (2147483647 : Int32)).toInt64) * (((p1 &&& (2147483647 : Int32)).toInt64) - (1 : Int64))) / (2 : Int64))))) (fun _ => ?_)
  refine own_iconst X32 hx (v := (1 : Int32)) (hb hby at_68) (q := 69) rfl rfl ?_
  refine own_goto X32 hx (hb hby at_69) (q := 73) (by decide) (by decide) ?_
  refine own_istore (L' := #[.val (.int p1), .val (.int (p1 &&& (2147483647 : Int32))), .val (.long ((p1 &&& (2147483647 : Int32)).toInt64)), .second, .val (.long (((p1 &&& (2147483647 : Int32)).toInt64) * ((p1 &&& (2147483647 : Int32)).toInt64))), .second, .val (.long ((((p1 &&& (2147483647 : Int32)).toInt64) * (((p1 &&& (2147483647 : Int32)).toInt64) - (1 : Int64))) / (2 : Int64))), .second, .val (.long ((((p1 &&& (2147483647 : Int32)).toInt64) * (((p1 &&& (2147483647 : Int32)).toInt64) + (1 : Int64))) / (2 : Int64))), .second, .val (.int (1 : Int32)), .val (.int (1 : Int32)), .unset, .unset]) X32 hx (hb hby at_73) (q := 75) rfl rfl ?_
  refine own_getS X32 hx hZ hown (hw _ (List.mem_of_getElem? (i := 19) rfl)) Via.refl e33 SS2 (hb hby at_75) (q := 78) rfl (fun T34 X35 e36 => ?_)
  refine own_iloadN X35 hx (hb hby at_78) (q := 79) rfl rfl ?_
  refine own_callVP X35 hx hZ hown (hw _ (List.mem_of_getElem? (i := 5) rfl)) (hw _ (List.mem_of_getElem? (i := 6) rfl)) (hw _ (List.mem_of_getElem? (i := 8) rfl)) (hw _ (List.mem_of_getElem? (i := 8) rfl)) (hw _ (List.mem_of_getElem? (i := 7) rfl)) (hw _ (List.mem_of_getElem? (i := 3) rfl)) (hw _ (List.mem_of_getElem? (i := 9) rfl)) ES2 (by decide) (rm1 l Z a0 hw [] s2 (p1 &&& (2147483647 : Int32)) (1 : Int32) (1 : Int32) (0 : Int32) h0 FS9 FS10 FS11) own_pd0 rfl e36 (by rw [hml]; rfl) (argsL := [.int (p1 &&& (2147483647 : Int32))]) (st := []) rfl (W := 0) (Nat.le_of_eq rfl) (by decide) (by decide) (by decide) (by decide) (hb hby at_79) (q := 82) rfl (fun T37 X38 e39 => ?_)
  refine own_lload X38 hx (hb hby at_82) (q := 84) rfl rfl ?_
  refine own_lcmp X38 hx (hb hby at_84) (q := 85) rfl ?_
  refine own_ifLM X38 hx (hb hby at_85) (cd := .ne) (x := own_f1 (p1 &&& (2147483647 : Int32)) (1 : Int32) (1 : Int32) (0 : Int32)) (y := (((p1 &&& (2147483647 : Int32)).toInt64) * (((p1 &&& (2147483647 : Int32)).toInt64) + (1 : Int64))) / (2 : Int64)) (pt := 92) (q := 88) (by decide) (by decide) rfl rfl (fun h => False.elim (h ((own_arith _ (own_pos31 _)).2.2.1 : (own_f1 (p1 &&& (2147483647 : Int32)) (1 : Int32) (1 : Int32) (0 : Int32)) = ((((p1 &&& (2147483647 : Int32)).toInt64) * (((p1 &&& (2147483647 : Int32)).toInt64) + (1 : Int64))) / (2 : Int64))))) (fun _ => ?_)
  refine own_iconst X38 hx (v := (1 : Int32)) (hb hby at_88) (q := 89) rfl rfl ?_
  refine own_goto X38 hx (hb hby at_89) (q := 93) (by decide) (by decide) ?_
  refine own_istore (L' := #[.val (.int p1), .val (.int (p1 &&& (2147483647 : Int32))), .val (.long ((p1 &&& (2147483647 : Int32)).toInt64)), .second, .val (.long (((p1 &&& (2147483647 : Int32)).toInt64) * ((p1 &&& (2147483647 : Int32)).toInt64))), .second, .val (.long ((((p1 &&& (2147483647 : Int32)).toInt64) * (((p1 &&& (2147483647 : Int32)).toInt64) - (1 : Int64))) / (2 : Int64))), .second, .val (.long ((((p1 &&& (2147483647 : Int32)).toInt64) * (((p1 &&& (2147483647 : Int32)).toInt64) + (1 : Int64))) / (2 : Int64))), .second, .val (.int (1 : Int32)), .val (.int (1 : Int32)), .val (.int (1 : Int32)), .unset]) X38 hx (hb hby at_93) (q := 95) rfl rfl ?_
  refine own_getS X38 hx hZ hown (hw _ (List.mem_of_getElem? (i := 21) rfl)) Via.refl e39 SS3 (hb hby at_95) (q := 98) rfl (fun T40 X41 e42 => ?_)
  refine own_iloadN X41 hx (hb hby at_98) (q := 99) rfl rfl ?_
  refine own_callVP X41 hx hZ hown (hw _ (List.mem_of_getElem? (i := 5) rfl)) (hw _ (List.mem_of_getElem? (i := 6) rfl)) (hw _ (List.mem_of_getElem? (i := 8) rfl)) (hw _ (List.mem_of_getElem? (i := 8) rfl)) (hw _ (List.mem_of_getElem? (i := 7) rfl)) (hw _ (List.mem_of_getElem? (i := 3) rfl)) (hw _ (List.mem_of_getElem? (i := 9) rfl)) ES3 (by decide) (rm1 l Z a0 hw [] s3 (p1 &&& (2147483647 : Int32)) (0 : Int32) (1 : Int32) (1 : Int32) h0 FS13 FS14 FS15) own_pd0 rfl e42 (by rw [hml]; rfl) (argsL := [.int (p1 &&& (2147483647 : Int32))]) (st := []) rfl (W := 0) (Nat.le_of_eq rfl) (by decide) (by decide) (by decide) (by decide) (hb hby at_99) (q := 102) rfl (fun T43 X44 e45 => ?_)
  refine own_lload X44 hx (hb hby at_102) (q := 104) rfl rfl ?_
  refine own_lcmp X44 hx (hb hby at_104) (q := 105) rfl ?_
  refine own_ifLM X44 hx (hb hby at_105) (cd := .ne) (x := own_f1 (p1 &&& (2147483647 : Int32)) (0 : Int32) (1 : Int32) (1 : Int32)) (y := (((p1 &&& (2147483647 : Int32)).toInt64) * (((p1 &&& (2147483647 : Int32)).toInt64) + (1 : Int64))) / (2 : Int64)) (pt := 112) (q := 108) (by decide) (by decide) rfl rfl (fun h => False.elim (h ((own_arith _ (own_pos31 _)).2.2.2 : (own_f1 (p1 &&& (2147483647 : Int32)) (0 : Int32) (1 : Int32) (1 : Int32)) = ((((p1 &&& (2147483647 : Int32)).toInt64) * (((p1 &&& (2147483647 : Int32)).toInt64) + (1 : Int64))) / (2 : Int64))))) (fun _ => ?_)
  refine own_iconst X44 hx (v := (1 : Int32)) (hb hby at_108) (q := 109) rfl rfl ?_
  refine own_goto X44 hx (hb hby at_109) (q := 113) (by decide) (by decide) ?_
  refine own_istore (L' := #[.val (.int p1), .val (.int (p1 &&& (2147483647 : Int32))), .val (.long ((p1 &&& (2147483647 : Int32)).toInt64)), .second, .val (.long (((p1 &&& (2147483647 : Int32)).toInt64) * ((p1 &&& (2147483647 : Int32)).toInt64))), .second, .val (.long ((((p1 &&& (2147483647 : Int32)).toInt64) * (((p1 &&& (2147483647 : Int32)).toInt64) - (1 : Int64))) / (2 : Int64))), .second, .val (.long ((((p1 &&& (2147483647 : Int32)).toInt64) * (((p1 &&& (2147483647 : Int32)).toInt64) + (1 : Int64))) / (2 : Int64))), .second, .val (.int (1 : Int32)), .val (.int (1 : Int32)), .val (.int (1 : Int32)), .val (.int (1 : Int32))]) X44 hx (hb hby at_113) (q := 115) rfl rfl ?_
  refine own_iload X44 hx (hb hby at_115) (q := 117) rfl rfl ?_
  refine own_if0P X44 hx (hb hby at_117) (cd := .eq) (x := (1 : Int32)) (pt := 139) (q := 120) (by decide) (by decide) rfl rfl (fun h => False.elim (((by decide) : ¬ ((1 : Int32) = (0 : Int32))) h)) (fun _ => ?_)
  refine own_iload X44 hx (hb hby at_120) (q := 122) rfl rfl ?_
  refine own_if0P X44 hx (hb hby at_122) (cd := .eq) (x := (1 : Int32)) (pt := 139) (q := 125) (by decide) (by decide) rfl rfl (fun h => False.elim (((by decide) : ¬ ((1 : Int32) = (0 : Int32))) h)) (fun _ => ?_)
  refine own_iload X44 hx (hb hby at_125) (q := 127) rfl rfl ?_
  refine own_if0P X44 hx (hb hby at_127) (cd := .eq) (x := (1 : Int32)) (pt := 139) (q := 130) (by decide) (by decide) rfl rfl (fun h => False.elim (((by decide) : ¬ ((1 : Int32) = (0 : Int32))) h)) (fun _ => ?_)
  refine own_iload X44 hx (hb hby at_130) (q := 132) rfl rfl ?_
  refine own_if0P X44 hx (hb hby at_132) (cd := .eq) (x := (1 : Int32)) (pt := 139) (q := 135) (by decide) (by decide) rfl rfl (fun h => False.elim (((by decide) : ¬ ((1 : Int32) = (0 : Int32))) h)) (fun _ => ?_)
  refine own_iconst X44 hx (v := (1 : Int32)) (hb hby at_135) (q := 136) rfl rfl ?_
  refine own_goto X44 hx (hb hby at_136) (q := 140) (by decide) (by decide) ?_
  refine own_retN X44 hx hlk (t := .boolean) (by simp) Bd.returns (hb hby at_140) ?_ (by decide) (by decide)
  exact ⟨rfl, N0⟩
set_option maxRecDepth 65536 in
set_option maxHeartbeats 40000000 in
theorem comes_1 {Post : Tables → Env → Array Value → State → Outcome → State → Prop} (hpost : ∀ tb e args s v u, (limb_1_1.after args s (.returned v) u = true ∧ limb_1_2.after args s (.returned v) u = true ∧ True) → FrameEnd s (.returned v) u (Jvm.fieldLocs frame_1_writes args s ++ Jvm.arrayLocs frame_1_arrays args s ++ Jvm.staticLocs frame_1_statics s) 0 0 → Post tb e args s (.returned v) u) :
    ArmFor flags0 classFile x code maxLocals ret World_1 tables_1 room_1 Calls_1 rest_1 Pre_1 Post := by
  intro l hfl _ _ p e ha hc hk s m args below hf hA hF happ hP
  obtain ⟨hcalls, hrest, hpre⟩ := hP
  obtain ⟨-, -, -, hnamed, -, -, -, hat⟩ := (Spec.applies_iff hf).mp happ
  obtain ⟨hg, hn⟩ := and_e (Cond.before_iff.mp (show (Jvm.Cond.and given_1 narrow_1).before args s = true from hpre))
  obtain ⟨h1, g0⟩ := and_e hg
  have k0 := g0
  obtain ⟨w0, rfl⟩ : ∃ w0 : Value, args = #[w0] := by
    have hs : args.size = 1 := by simpa [Cond.value, given_1] using h1
    obtain ⟨L⟩ := args
    match L, hs with
    | [w0], _ => exact ⟨w0, rfl⟩
  have hw := fun d (hd : d ∈ tables_1) => atoms_spec (ws := Jvm.Cond.code x code maxLocals ret :: tables_1) hat d (List.mem_cons_of_mem _ hd)
  have hfit : Fit s := fun {y c} hc i hi => by
    obtain ⟨ha, rfl⟩ := Array.getElem?_eq_some_iff.mp hc
    have q := List.all_eq_true.mp ((Array.all_eq_true_iff_forall_mem.mp hF) _ (Array.getElem_mem ha)) i (List.mem_range.mpr hi)
    simpa [Array.getElem?_eq_getElem hi] using q
  obtain ⟨i0, e0⟩ := is_v k0
  obtain rfl : w0 = (.int i0) := Option.some.inj e0
  obtain ⟨na0, nr0⟩ := and_e hn
  obtain ⟨na1, nr1⟩ := and_e nr0
  obtain ⟨na2, nr2⟩ := and_e nr1
  obtain ⟨na3, nr3⟩ := and_e nr2
  obtain ⟨na4, nr4⟩ := and_e nr3
  obtain ⟨na5, nr5⟩ := and_e nr4
  obtain ⟨na6, nr6⟩ := and_e nr5
  obtain ⟨na7, nr7⟩ := and_e nr6
  obtain ⟨na8, nr8⟩ := and_e nr7
  obtain ⟨na9, nr9⟩ := and_e nr8
  obtain ⟨na10, nr10⟩ := and_e nr9
  obtain ⟨na11, nr11⟩ := and_e nr10
  obtain ⟨na12, nr12⟩ := and_e nr11
  obtain ⟨na13, nr13⟩ := and_e nr12
  obtain ⟨na14, nr14⟩ := and_e nr13
  have na15 := nr14
  obtain ⟨s0, ev0⟩ := exa_v na0
  have ES0 := Exa.start ev0 na0
  have SS0 := Sta.start ev0 (Or.inr ⟨(hw _ (List.mem_of_getElem? (i := 3) rfl)), (hw _ (List.mem_of_getElem? (i := 4) rfl))⟩)
  have FS1 := own_feq na1 ev0
  have FS2 := own_feq na2 ev0
  have FS3 := own_feq na3 ev0
  obtain ⟨s1, ev1⟩ := exa_v na4
  have ES1 := Exa.start ev1 na4
  have SS1 := Sta.start ev1 (Or.inr ⟨(hw _ (List.mem_of_getElem? (i := 3) rfl)), (hw _ (List.mem_of_getElem? (i := 18) rfl))⟩)
  have FS5 := own_feq na5 ev1
  have FS6 := own_feq na6 ev1
  have FS7 := own_feq na7 ev1
  obtain ⟨s2, ev2⟩ := exa_v na8
  have ES2 := Exa.start ev2 na8
  have SS2 := Sta.start ev2 (Or.inr ⟨(hw _ (List.mem_of_getElem? (i := 3) rfl)), (hw _ (List.mem_of_getElem? (i := 20) rfl))⟩)
  have FS9 := own_feq na9 ev2
  have FS10 := own_feq na10 ev2
  have FS11 := own_feq na11 ev2
  obtain ⟨s3, ev3⟩ := exa_v na12
  have ES3 := Exa.start ev3 na12
  have SS3 := Sta.start ev3 (Or.inr ⟨(hw _ (List.mem_of_getElem? (i := 3) rfl)), (hw _ (List.mem_of_getElem? (i := 22) rfl))⟩)
  have FS13 := own_feq na13 ev3
  have FS14 := own_feq na14 ev3
  have FS15 := own_feq na15 ev3
  obtain ⟨n, o, h1, h2, h3, _, L, rfl, ⟨rfl, N⟩, hq⟩ := rm0 l s _ hw tables_1 i0 s.heap s.heap.size (Nat.le_refl _) ES0 SS0 FS1 FS2 FS3 ES1 SS1 FS5 FS6 FS7 ES2 SS2 FS9 FS10 FS11 ES3 SS3 FS13 FS14 FS15 p e ha hc hk s m _ below hf ((Spec.applies_iff_loose hf).mp happ).1 ⟨rfl, State.Warmed39.refl s, rfl⟩ trivial
  refine ⟨n, _, h1, h2, h3, hpost _ _ _ _ _ _ ⟨Cond.after_iff.mpr rfl, Cond.after_iff.mpr (eq_i res_at (Term.int_eval (1)) rfl), trivial⟩ ⟨hq.1, hq.2.1, (hq.2.2.sift fun y hy => Or.inr (N y hy)).mono (by decide) (by decide)⟩⟩
theorem main_1_1 : Claimed_1_1 := comes_1 fun _ _ _ _ _ _ h hF => ⟨h.1, hF⟩
theorem main_1_2 : Claimed_1_2 := comes_1 fun _ _ _ _ _ _ h hF => ⟨h.2.1, hF⟩
end Jvm.Pilot.@@N@@
namespace Jvm.Pilot.@@N@@
open Jvm Jvm.ClassFile Sem Op Lib Jvm.Free Jvm.Stand Jvm.Pilot.@@N@@.Jvm.D
/-! MADE BY PROGRAM (witnessworld.py) out of the Statement's table words and the real class files: 12 classes; the members and pool entries that the words name. The judged class is class 1, her method 1. -/
namespace start1
open Jvm.ClassFile
def u (s : String) : CpInfo := .utf8 (stringToUtf16 s)
/-- a pool by its gaps: so many unusable entries, then the entry; so many at the end -/
def gap : Nat → List CpInfo → List CpInfo
  | 0, r => r
  | n + 1, r => .unusable :: gap n r
def poolList (es : List (Nat × CpInfo)) (last : Nat) : List CpInfo := es.foldr (fun e r => gap e.1 (e.2 :: r)) (gap last [])
def pool (es : List (Nat × CpInfo)) (last : Nat) : Array CpInfo := ⟨poolList es last⟩
def fileOf (pool : Array CpInfo) (this : Nat) (attrs : Array Attribute := #[]) (ms : Array MethodInfo := #[]) (fl : Nat := 33) (sup : Nat := 0) (ifs : Array Nat := #[]) (fds : Array FieldInfo := #[]) : ClassFile where
  minorVersion := 0
  majorVersion := 65
  constantPool := pool
  accessFlags := fl
  thisClass := this
  superClass := sup
  interfaces := ifs
  fields := fds
  methods := ms
  attributes := attrs
def plain (name : String) (sup : Option ClassId) : Class where
  name := name
  kind := .ordinary
  loader := none
  accessFlags := 33
  super := sup
  interfaces := #[]
  cf := none
  fields := #[]
  methods := #[]
  instanceTypes := #[]
  staticTypes := #[]
  resolved := #[]
  callSites := []
  init := .initialized
  statics := none
  mirror := none

def pool0 : Array CpInfo := pool [(5, u "<init>"), (0, u "()V"), (1, .class_ 10), (1, u "java/lang/Object")] 113

def k0m0 : Method := { name := "<init>", desc := "()V", sig := { parameters := [], returnType := none }, accessFlags := 1, code := none }
/-- java/lang/Object -/
def k0 : Class := { plain "java/lang/Object" none with
  accessFlags := 33
  interfaces := #[]
  cf := some (fileOf pool0 8 #[] #[{ accessFlags := 1, nameIndex := 5, descriptorIndex := 6, attributes := #[] }] 33 0 #[] #[])
  fields := #[]
  methods := #[k0m0]
  instanceTypes := #[]
  staticTypes := #[]
  resolved := Array.replicate 124 none
  statics := none }

def pool1 : Array CpInfo := pool [(2, .class_ 4), (1, u "java/lang/Object"), (0, u "<init>"), (0, u "()V"), (0, .integer 2147483647), (0, .long 2), (1, .fieldref 11 12), (0, .class_ 13), (0, .nameAndType 14 15), (0, u "com/example/tourloom/tourloom/MatrixLayout"), (0, u "FULL_MATRIX"), (0, u "Lcom/example/tourloom/tourloom/MatrixLayout;"), (0, .methodref 11 17), (0, .nameAndType 18 19), (0, u "weightCount"), (0, u "(I)J"), (0, .fieldref 11 21), (0, .nameAndType 22 15), (0, u "UPPER_ROW"), (0, .fieldref 11 24), (0, .nameAndType 25 15), (0, u "LOWER_DIAG_ROW"), (0, .fieldref 11 27), (0, .nameAndType 28 15), (0, u "UPPER_DIAG_ROW"), (0, .class_ 30), (0, u "com/example/tourloom/tourloom/MatrixLayoutWeightCountPinLaw"), (2, u "law"), (0, u "(I)Z")] 3

def k1m0 : Method := { name := "<init>", desc := "()V", sig := { parameters := [], returnType := none }, accessFlags := 1, code := none }
def k1c1 : Code := { maxStack := 6, maxLocals := 14, code := code, exceptionTable := #[], attributes := #[] }
def k1m1 : Method := { name := "law", desc := "(I)Z", sig := { parameters := [.int], returnType := some .boolean }, accessFlags := 9, code := some k1c1 }
/-- com/example/tourloom/tourloom/MatrixLayoutWeightCountPinLaw -/
def k1 : Class := { plain "com/example/tourloom/tourloom/MatrixLayoutWeightCountPinLaw" (some 0) with
  accessFlags := 49
  interfaces := #[]
  cf := some (fileOf pool1 29 #[] #[{ accessFlags := 1, nameIndex := 5, descriptorIndex := 6, attributes := #[] }, { accessFlags := 9, nameIndex := 33, descriptorIndex := 34, attributes := #[] }] 49 2 #[] #[])
  fields := #[]
  methods := #[k1m0, k1m1]
  instanceTypes := #[]
  staticTypes := #[]
  resolved := Array.replicate 38 none
  statics := none }

def pool2 : Array CpInfo := pool [(1, .class_ 2), (0, u "java/lang/constant/Constable"), (0, .class_ 4), (0, u "java/lang/Object")] 6

/-- java/lang/constant/Constable -/
def k2 : Class := { plain "java/lang/constant/Constable" (some 0) with
  accessFlags := 1537
  interfaces := #[]
  cf := some (fileOf pool2 1 #[] #[] 1537 3 #[] #[])
  fields := #[]
  methods := #[]
  instanceTypes := #[]
  staticTypes := #[]
  resolved := Array.replicate 11 none
  statics := none }

def pool3 : Array CpInfo := pool [(1, .class_ 2), (0, u "java/lang/Comparable"), (0, .class_ 4), (0, u "java/lang/Object")] 7

/-- java/lang/Comparable -/
def k3 : Class := { plain "java/lang/Comparable" (some 0) with
  accessFlags := 1537
  interfaces := #[]
  cf := some (fileOf pool3 1 #[] #[] 1537 3 #[] #[])
  fields := #[]
  methods := #[]
  instanceTypes := #[]
  staticTypes := #[]
  resolved := Array.replicate 12 none
  statics := none }

def pool4 : Array CpInfo := pool [(1, .class_ 2), (0, u "java/io/Serializable"), (0, .class_ 4), (0, u "java/lang/Object")] 2

/-- java/io/Serializable -/
def k4 : Class := { plain "java/io/Serializable" (some 0) with
  accessFlags := 1537
  interfaces := #[]
  cf := some (fileOf pool4 1 #[] #[] 1537 3 #[] #[])
  fields := #[]
  methods := #[]
  instanceTypes := #[]
  staticTypes := #[]
  resolved := Array.replicate 7 none
  statics := none }

def pool5 : Array CpInfo := pool [(2, .class_ 4), (1, u "java/lang/Enum"), (0, u "name"), (0, u "Ljava/lang/String;"), (2, u "ordinal"), (0, u "I"), (1, .class_ 14), (1, u "java/lang/Object"), (4, u "hash"), (86, .class_ 108), (1, u "java/lang/Enum$EnumDesc"), (2, .class_ 112), (0, u "java/lang/constant/Constable"), (0, .class_ 114), (0, u "java/lang/Comparable"), (0, .class_ 116), (0, u "java/io/Serializable")] 87

/-- java/lang/Enum -/
def k5 : Class := { plain "java/lang/Enum" (some 0) with
  accessFlags := 1057
  interfaces := #[2, 3, 4]
  cf := some (fileOf pool5 2 #[.nestMembers #[106]] #[] 1057 12 #[111, 113, 115] #[{ accessFlags := 18, nameIndex := 5, descriptorIndex := 6, attributes := #[] }, { accessFlags := 18, nameIndex := 9, descriptorIndex := 10, attributes := #[] }, { accessFlags := 2, nameIndex := 19, descriptorIndex := 10, attributes := #[] }])
  fields := #[{ name := "name", type := (.object "java/lang/String"), accessFlags := 18, slot := 0, constantValue := 0 }, { name := "ordinal", type := .int, accessFlags := 18, slot := 1, constantValue := 0 }, { name := "hash", type := .int, accessFlags := 2, slot := 2, constantValue := 0 }]
  methods := #[]
  instanceTypes := #[(.object "java/lang/String"), .int, .int]
  staticTypes := #[]
  resolved := Array.replicate 204 none
  statics := none }

def pool6 : Array CpInfo := pool [(1, .class_ 2), (0, u "com/example/tourloom/tourloom/MatrixLayout"), (2, u "FULL_MATRIX"), (0, u "Lcom/example/tourloom/tourloom/MatrixLayout;"), (2, u "UPPER_ROW"), (2, u "LOWER_DIAG_ROW"), (2, u "UPPER_DIAG_ROW"), (2, u "$VALUES"), (0, u "[Lcom/example/tourloom/tourloom/MatrixLayout;"), (6, .class_ 28), (1, u "java/lang/Enum"), (6, .fieldref 1 36), (0, .nameAndType 37 38), (0, u "below"), (0, u "Z"), (0, .fieldref 1 40), (0, .nameAndType 41 38), (0, u "diagonal"), (0, .fieldref 1 43), (0, .nameAndType 44 38), (0, u "above"), (0, .long 2), (36, u "weightCount"), (0, u "(I)J")] 25

def k6c0 : Code := { maxStack := 4, maxLocals := 4, code := prog_27_method_4_code, exceptionTable := #[], attributes := #[] }
def k6m0 : Method := { name := "weightCount", desc := "(I)J", sig := { parameters := [.int], returnType := some .long }, accessFlags := 0, code := some k6c0 }
/-- com/example/tourloom/tourloom/MatrixLayout -/
def k6 : Class := { plain "com/example/tourloom/tourloom/MatrixLayout" (some 5) with
  accessFlags := 16432
  interfaces := #[]
  cf := some (fileOf pool6 1 #[] #[{ accessFlags := 0, nameIndex := 82, descriptorIndex := 83, attributes := #[] }] 16432 26 #[] #[{ accessFlags := 16409, nameIndex := 5, descriptorIndex := 6, attributes := #[] }, { accessFlags := 16409, nameIndex := 9, descriptorIndex := 6, attributes := #[] }, { accessFlags := 16409, nameIndex := 12, descriptorIndex := 6, attributes := #[] }, { accessFlags := 16409, nameIndex := 15, descriptorIndex := 6, attributes := #[] }, { accessFlags := 18, nameIndex := 37, descriptorIndex := 38, attributes := #[] }, { accessFlags := 18, nameIndex := 41, descriptorIndex := 38, attributes := #[] }, { accessFlags := 18, nameIndex := 44, descriptorIndex := 38, attributes := #[] }, { accessFlags := 4122, nameIndex := 18, descriptorIndex := 19, attributes := #[] }])
  fields := #[{ name := "FULL_MATRIX", type := (.object "com/example/tourloom/tourloom/MatrixLayout"), accessFlags := 16409, slot := 0, constantValue := 0 }, { name := "UPPER_ROW", type := (.object "com/example/tourloom/tourloom/MatrixLayout"), accessFlags := 16409, slot := 1, constantValue := 0 }, { name := "LOWER_DIAG_ROW", type := (.object "com/example/tourloom/tourloom/MatrixLayout"), accessFlags := 16409, slot := 2, constantValue := 0 }, { name := "UPPER_DIAG_ROW", type := (.object "com/example/tourloom/tourloom/MatrixLayout"), accessFlags := 16409, slot := 3, constantValue := 0 }, { name := "below", type := .boolean, accessFlags := 18, slot := 3, constantValue := 0 }, { name := "diagonal", type := .boolean, accessFlags := 18, slot := 4, constantValue := 0 }, { name := "above", type := .boolean, accessFlags := 18, slot := 5, constantValue := 0 }, { name := "$VALUES", type := (.array (.object "com/example/tourloom/tourloom/MatrixLayout")), accessFlags := 4122, slot := 4, constantValue := 0 }]
  methods := #[k6m0]
  instanceTypes := #[(.object "java/lang/String"), .int, .int, .boolean, .boolean, .boolean]
  staticTypes := #[(.object "com/example/tourloom/tourloom/MatrixLayout"), (.object "com/example/tourloom/tourloom/MatrixLayout"), (.object "com/example/tourloom/tourloom/MatrixLayout"), (.object "com/example/tourloom/tourloom/MatrixLayout"), (.array (.object "com/example/tourloom/tourloom/MatrixLayout"))]
  resolved := Array.replicate 109 none
  statics := some 0 }

def pool7 : Array CpInfo := pool [(1, u "java/lang/Cloneable"), (0, .class_ 1), (0, u "java/lang/Object"), (0, .class_ 3)] 3

/-- java/lang/Cloneable -/
def k7 : Class := { plain "java/lang/Cloneable" (some 0) with
  accessFlags := 1537
  interfaces := #[]
  cf := some (fileOf pool7 2 #[] #[] 1537 4 #[] #[])
  fields := #[]
  methods := #[]
  instanceTypes := #[]
  staticTypes := #[]
  resolved := Array.replicate 8 none
  statics := none }

/-- the primitive byte -/
def k8 : Class := { plain "byte" none with kind := .primitive 'B', accessFlags := 0x411 }
/-- [B -/
def k9 : Class := { plain "[B" (some 0) with kind := .array 8 .byte, interfaces := #[7, 4], accessFlags := 1041 }

/-- the primitive int -/
def k10 : Class := { plain "int" none with kind := .primitive 'I', accessFlags := 0x411 }
/-- [I -/
def k11 : Class := { plain "[I" (some 0) with kind := .array 10 .int, interfaces := #[7, 4], accessFlags := 1041 }

def heap : Heap := #[{ cls := 6, slots := #[.ref 1, .ref 2, .ref 3, .ref 4, .null], vm := .statics 6 },
  { cls := 6, slots := #[.null, .int 0, .int 0, .int 1, .int 1, .int 1], vm := .none },
  { cls := 6, slots := #[.null, .int 0, .int 0, .int 0, .int 0, .int 1], vm := .none },
  { cls := 6, slots := #[.null, .int 0, .int 0, .int 1, .int 1, .int 0], vm := .none },
  { cls := 6, slots := #[.null, .int 0, .int 0, .int 0, .int 1, .int 1], vm := .none }]
def classes : Array Class := #[k0, k1, k2, k3, k4, k5, k6, k7, k8, k9, k10, k11]
def interned : List (Array UInt16 × Addr) := []
def slotsUsed : Nat := 29
def theMethod : MethodId := ⟨1, 1⟩
def args0 : Array Value := #[.int 5]
def aboutOver (below : List Frame) : State where
  vm := { classes := classes, interned := interned.toArray }
  heap := heap
  slotsUsed := slotsUsed
  threads := #[{ frames := .invoking theMethod args0 :: below }]
def below0 : List Frame := [.native { method := ⟨0, 0⟩, args := #[] }]
def about1 : State := aboutOver below0
def p0 : Program := .bare "" "" ""
def e0 : Env := launch0.env 0 0 0
theorem w_frames : about1.frames = Frame.invoking theMethod args0 :: below0 := rfl
set_option maxRecDepth 65536 in
theorem w_args : argsFit about1.vm theMethod args0 = true := by decide +kernel
set_option maxRecDepth 65536 in
theorem w_heap : heapFits about1 = true := by decide +kernel
set_option maxRecDepth 65536 in
theorem w_runnable : about1.curStatus? = some .runnable := by decide +kernel
set_option maxRecDepth 65536 in
theorem w_alone : about1.alone = true := by decide +kernel
set_option maxRecDepth 65536 in
theorem w_named : about1.methodNamed? x = some theMethod := by decide +kernel
set_option maxRecDepth 65536 in
theorem w_hears : about1.hears theMethod below0 = true := by decide +kernel
set_option maxRecDepth 65536 in
theorem w_ripe : about1.ripe theMethod args0 below0 = true := by decide +kernel
theorem w_running : about1.status = .running := rfl
set_option maxRecDepth 65536 in
theorem w_room : about1.hasRoom e0.platform room_1 = true :=
  launch0.hasRoom_least _ room_1 (by decide +kernel) (by decide +kernel) (by decide +kernel) (by decide +kernel) (by decide +kernel) (by decide +kernel)
theorem allAtoms_all (ts : List Jvm.Cond) (a : Array Jvm.Value) (st : Jvm.State) : (allAtoms ts).before a st = ts.all (fun c => c.before a st) := by
  induction ts with
  | nil => rfl
  | cons c t ih =>
    show (Jvm.Cond.and c (allAtoms t)).before a st = _
    rw [Jvm.Cond.before_and, ih, List.all_cons]
def words1 : List Jvm.Cond := Jvm.Cond.code x code maxLocals ret :: tables_1
/-- a 'code' word, met by the world's own term for the bytes: nothing is compared byte by byte -/
theorem code_word {y : MethodName} {bytes : ByteArray} {mx : Nat} {rt : Option FieldType} {a : Array Value} {s : State} {m : MethodId} {meth : Method} {c : Code} (h1 : s.methodNamed? y = some m) (h2 : s.vm.method? m = some meth) (h3 : meth.code = some c) (h4 : c.code = bytes)
    (h5 : (c.maxLocals == mx && c.exceptionTable.isEmpty && decide (c.maxStack ≤ mostOperands) && decide (meth.sig.returnType = rt) && !meth.locks && decide (parseMethodDescriptor y.desc = some meth.sig)) = true) : (Jvm.Cond.code y bytes mx rt).before a s = true := by
  simp only [Bool.and_eq_true, beq_iff_eq, Bool.not_eq_true', decide_eq_true_eq] at h5
  obtain ⟨⟨⟨⟨⟨g1, g2⟩, g3⟩, g4⟩, g5⟩, g6⟩ := h5
  simp [Cond.before, Cond.holds, Cond.value, h1, h2, h3, h4, g1, g2, g3, g4, g5, g6]
def isCode : Jvm.Cond → Bool
  | .code _ _ _ _ => true
  | _ => false
theorem all_split {L : List Jvm.Cond} {P : Jvm.Cond → Bool} (h1 : L.all (fun c => isCode c || P c) = true) (h2 : ∀ c ∈ L.filter isCode, P c = true) : L.all P = true := by
  refine List.all_eq_true.mpr fun c hc => ?_
  have h := List.all_eq_true.mp h1 c hc
  rcases Bool.eq_false_or_eq_true (isCode c) with hi | hi
  · exact h2 c (List.mem_filter.mpr ⟨hc, hi⟩)
  · simpa [hi] using h
set_option maxRecDepth 65536 in
theorem w_c0 : (Jvm.Cond.code x code maxLocals ret).before args0 about1 = true := code_word (m := ⟨1, 1⟩) (meth := k1m1) (c := k1c1) (by decide +kernel) rfl rfl rfl (by decide +kernel)
set_option maxRecDepth 65536 in
theorem w_c1 : (Jvm.Cond.code ({ cls := "com/example/tourloom/tourloom/MatrixLayout", name := "weightCount", desc := "(I)J" } : Jvm.MethodName) prog_27_method_4_code (4 : Nat) (Option.some Jvm.ClassFile.FieldType.long)).before args0 about1 = true := code_word (m := ⟨6, 0⟩) (meth := k6m0) (c := k6c0) (by decide +kernel) rfl rfl rfl (by decide +kernel)
def codes1 : List Jvm.Cond := [Jvm.Cond.code x code maxLocals ret, Jvm.Cond.code ({ cls := "com/example/tourloom/tourloom/MatrixLayout", name := "weightCount", desc := "(I)J" } : Jvm.MethodName) prog_27_method_4_code (4 : Nat) (Option.some Jvm.ClassFile.FieldType.long)]
set_option maxRecDepth 65536 in
theorem codes_eq : words1.filter isCode = codes1 := rfl
theorem w_codes : ∀ c ∈ words1.filter isCode, c.before args0 about1 = true := by
  rw [codes_eq]
  intro c hc
  simp only [codes1, List.mem_cons, List.not_mem_nil, or_false] at hc
  rcases hc with rfl | rfl
  · exact w_c0
  · exact w_c1
set_option maxRecDepth 65536 in
theorem w_t1 : words1.all (fun c => isCode c || c.before args0 about1) = true := by decide +kernel
theorem w_tables : (allAtoms (Jvm.Cond.code x code maxLocals ret :: tables_1)).before args0 about1 = true := by
  rw [allAtoms_all]
  show words1.all (fun c => c.before args0 about1) = true
  refine all_split ?_ w_codes
  rw [w_t1]
set_option maxRecDepth 65536 in
theorem w_case : (Jvm.Cond.and given_1 narrow_1).before args0 about1 = true := by decide +kernel
theorem w_applies : (headSpec (Jvm.Cond.code x code maxLocals ret :: tables_1) room_1).applies x e0.platform about1 = true :=
  (Spec.applies_iff w_frames).mpr ⟨w_running, w_runnable, w_alone, w_named, w_hears, w_ripe, w_room, w_tables⟩
theorem atStart : AtStart classFile x code maxLocals ret World_1 tables_1 room_1 Calls_1 rest_1 Pre_1 launch0 p0 e0 about1 theMethod args0 below0 :=
  ⟨lists_1, trivial, launch0.admits_env _ _ _, launch0.least_env, fairChoices_fair.cas, fairChoices_fair.clock, w_frames, w_args, w_heap, w_applies, trivial, trivial, w_case⟩
end start1
theorem witness_1 : WitnessClaimed_1 := ⟨start1.p0, start1.e0, start1.about1, start1.theMethod, start1.args0, start1.below0, start1.atStart⟩
end Jvm.Pilot.@@N@@
